/-
  A slice of bytes that came in empty and is appended to: what is known of it and of the memory that was there.
-/
import Derived.Test.YtlmhpmbgalmpgaaGreatDoorSc9
import Derived.Deep.AppendSrc
import Derived.Deep.Upon
import Derived.Lib.AppendStr
import Derived.Lib.BufferWrite
import Derived.Lib.BufferMore
namespace Go.Proofs.YtlmhpmbgalmpgaaGreatDoor
open Go.RowKit

/-- A row keeps its kind and its length. -/
def Shape (e : TypeId) (k : Nat) (W w : World) : Prop := ∀ cs, W.heap[k]? = some (.cells cs e (0, 0)) → ∃ cs', w.heap[k]? = some (.cells cs' e (0, 0)) ∧ cs'.size = cs.size

/-- In the world w the value v holds the bytes ks; it began in W as an empty slice whose row, if any, is d. -/
structure Ap (e : TypeId) (B : Nat) (d : Option Nat) (W w : World) (v : Value) (ks : List UInt8) : Prop where
  own : w.ownsRow B e 1 v ks.length (Lib.byteCells ks)
  lies : ∀ k, v.ownBlock = some k → d = some k ∨ W.heap.size ≤ k
  base : B ≤ W.heap.size
  os : w.os = W.os
  tape : w.tape = W.tape
  output : w.output = W.output
  size : W.heap.size ≤ w.heap.size
  block : ∀ k, k < W.heap.size → d ≠ some k → w.heap[k]? = W.heap[k]?
  shape : ∀ k, d = some k → k < W.heap.size → Shape e k W w

theorem Ap.start {e : TypeId} {B : Nat} {W : World} {v : Value} (h : W.ownsRow B e 1 v 0 []) (hB : B ≤ W.heap.size) : Ap e B v.ownBlock W W v [] :=
  ⟨h, fun _ hk => .inl hk, hB, rfl, rfl, rfl, Nat.le_refl _, fun _ _ _ => rfl, fun _ _ _ cs hc => ⟨cs, hc, rfl⟩⟩

theorem ownsRow_of_block {w w' : World} {B n : Nat} {e : TypeId} {v : Value} {xs : List Value} (h : w.ownsRow B e 1 v n xs) (hb : ∀ k, v.ownBlock = some k → w'.heap[k]? = w.heap[k]?) : w'.ownsRow B e 1 v n xs := by
  refine ⟨h.1, h.2.imp id ?_⟩
  rintro ⟨g, cap, cur, hv, hg, hh, h1⟩
  exact ⟨g, cap, cur, hv, hg, (hb g (by rw [hv]; rfl)).trans hh, h1⟩

/-- Other work that leaves the old blocks and the value's own row alone. -/
theorem Ap.carry {e : TypeId} {B : Nat} {d : Option Nat} {W w w' : World} {v : Value} {ks : List UInt8} (h : Ap e B d W w v ks) (hos : w'.os = w.os) (ht : w'.tape = w.tape) (ho : w'.output = w.output) (hs : w.heap.size ≤ w'.heap.size)
    (hb : ∀ k, k < w.heap.size → (k < W.heap.size ∨ v.ownBlock = some k) → w'.heap[k]? = w.heap[k]?) : Ap e B d W w' v ks := by
  refine ⟨ownsRow_of_block h.own fun k hk => hb k (h.own.lt k hk).2 (.inr hk), h.lies, h.base, hos.trans h.os, ht.trans h.tape, ho.trans h.output, Nat.le_trans h.size hs, fun k hk hd => (hb k (Nat.lt_of_lt_of_le hk h.size) (.inl hk)).trans (h.block k hk hd), fun k hd hk cs hc => ?_⟩
  obtain ⟨cs', h1, h2⟩ := h.shape k hd hk cs hc
  exact ⟨cs', (hb k (Nat.lt_of_lt_of_le hk h.size) (.inl hk)).trans h1, h2⟩

theorem Ap.alloc {e : TypeId} {B : Nat} {d : Option Nat} {W w : World} {v : Value} {ks : List UInt8} (h : Ap e B d W w v ks) (o : Obj) : Ap e B d W (w.alloc o) v ks :=
  h.carry rfl rfl rfl (by simp) fun k hk _ => Below.heap_alloc w o k hk

theorem Ap.drew {e : TypeId} {B : Nat} {d : Option Nat} {W w : World} {v : Value} {ks : List UInt8} (h : Ap e B d W w v ks) : Ap e B d W w.drew v ks :=
  h.carry rfl rfl rfl (Nat.le_refl _) fun _ _ _ => rfl

/-- Where the value lies. -/
theorem Ap.slice {e : TypeId} {B : Nat} {d : Option Nat} {W w : World} {v : Value} {ks : List UInt8} (h : Ap e B d W w v ks) : ∃ ao c, v = .slice ao ks.length c ∧ ks.length ≤ c ∧ c ≤ maxLen := by
  rcases h.own.2 with ⟨hv, h0⟩ | ⟨g, cap, cur, hv, _, _, hn, hm, _⟩
  · exact ⟨none, 0, by rw [hv, h0], by omega, by unfold maxLen; omega⟩
  · exact ⟨_, cap, hv, hn, hm⟩

section
variable {P : Program} (w : World)

/-- What an append does to the row of the value that it is given. -/
theorem append_shape (t tx ty e : TypeId) (i : TypeInfo) (z : Value) (base : Nat) (ht : P.underlying t = some (.slice e)) (hi : P.info? e = some i) (hz : i.zero = some z) (hsize : i.size = 1) (hby : i.bytes = 1)
    (v : Value) (n : Nat) (xs : List Value) (hown : w.ownsRow base e 1 v n xs) (x : Value) (m : Nat) (news : List Value) (hs : Src P 1 tx x m news w)
    (h63 : n + m ≤ maxLen) (hbytes : n + m ≤ 140737488355328) {v' : Value} {w' : World} (hrun : (Builtin.append_ #[t, tx] ty #[v, x]).run P w = .ok v' w') :
    (∀ k, v.ownBlock = some k → Shape e k w w') ∧ (v'.ownBlock = v.ownBlock ∨ v'.ownBlock = some w.heap.size) := by
  have hsmall : n + m ≤ 9223372036854775807 := by simp only [maxLen] at h63; omega
  rw [← hsize] at hs
  rcases hown.2 with ⟨rfl, rfl⟩ | ⟨g, cap, cur, rfl, hbg, hg, hnc, hcm, hcs, htake⟩
  · refine ⟨fun k hk => by simp [Value.ownBlock] at hk, ?_⟩
    by_cases hm : m = 0
    · subst hm
      have hn0 : news = [] := List.eq_nil_of_length_eq_zero (by simpa using hs.newsLen)
      subst hn0
      have hr := run_append_nothing (P := P) w t tx ty e i ht hi none 0 0 (Nat.le_refl _) x hs
      rw [hr] at hrun
      cases hrun
      exact .inl rfl
    · have hr := run_append_grow_src (P := P) w t tx ty e i z ht hi hz none 0 0 [] (run_firstCells_none w.drew i.size 0 0 0) x m news hs (by omega) (by omega) (by rw [hby]; exact growslice_fits (by omega) (by omega))
      rw [hr] at hrun
      cases hrun
      exact .inr rfl
  · by_cases hroom : n + m ≤ cap
    · have hnl := hs.newsLen
      rw [hsize, Nat.mul_one] at hnl
      have hin : ∀ j, j < news.length → 0 + n * i.size + j < cur.size := fun j hj => by rw [hsize]; omega
      have hr := run_append_room_src (P := P) w t tx ty e i ht hi g 0 n cap x m news hs hroom
        (fun j hj => by rw [Lib.cell_of_heap hg]; simpa using hin j hj) (fun j _ => Lib.frozen_of_heap hg _)
      rw [hr] at hrun
      cases hrun
      refine ⟨fun k hk cs hcs' => ?_, .inl rfl⟩
      have hkg : k = g := by simpa [Value.ownBlock] using hk.symm
      subst hkg
      have hkept := (World.keptBut_setCells k (may := fun _ => True) news (0 + n * i.size) w (fun _ _ => trivial)).2.2 k (Lib.lt_of_heap hg)
      rw [hcs'] at hkept
      cases ho : (w.setCells k (0 + n * i.size) news).heap[k]? with
      | none => rw [ho] at hkept; cases hkept
      | some o =>
        rw [ho] at hkept
        cases o with
        | cells c t f =>
          obtain ⟨h1, h2, h3, _⟩ := hkept
          subst h1; subst h2
          exact ⟨c, rfl, h3⟩
        | _ => cases hkept
    · have holds : ∀ j u, xs[j]? = some u → w.cell? ((⟨g, 0, none⟩ : Addr).add j) = some u := hown.cells (g := g) rfl
      have hr := run_append_grow_src (P := P) w t tx ty e i z ht hi hz (some ⟨g, 0, none⟩) n cap xs (run_firstCells_some w.drew i.size n ⟨g, 0, none⟩ n cap xs (by rw [hsize]; exact hown.1) (by simpa using holds)) x m news hs (by omega) (by omega) (by rw [hby]; exact growslice_fits (by omega) (by omega))
      rw [hr] at hrun
      cases hrun
      refine ⟨fun k hk cs hcs' => ⟨cs, ?_, rfl⟩, .inr rfl⟩
      have hkg : k = g := by simpa [Value.ownBlock] using hk.symm
      subst hkg
      exact (Below.heap_alloc w.drew _ k (Lib.lt_of_heap hg)).trans hcs'


/-- One append more. -/
theorem Ap.grown {e : TypeId} {B : Nat} {d : Option Nat} {W w w' : World} {v v' : Value} {ks ns : List UInt8} (h : Ap e B d W w v ks) (hown : w'.ownsRow B e 1 v' (ks.length + ns.length) (Lib.byteCells ks ++ Lib.byteCells ns))
    (hg : w.grownBy w' v.ownBlock) (hsh : ∀ k, v.ownBlock = some k → Shape e k w w') (hat : v'.ownBlock = v.ownBlock ∨ v'.ownBlock = some w.heap.size) : Ap e B d W w' v' (ks ++ ns) := by
  refine ⟨by rw [List.length_append, Lib.byteCells_append]; exact hown, fun k hk => ?_, h.base, hg.os.trans h.os, hg.tape.trans h.tape, hg.output.trans h.output, Nat.le_trans h.size hg.size, fun k hk hd => ?_, fun k hd hk cs hc => ?_⟩
  · rcases hat with e1 | e1
    · exact h.lies k (e1.symm.trans hk)
    · rw [hk] at e1
      have : k = w.heap.size := by simpa using e1
      exact .inr (by have := h.size; omega)
  · refine (hg.block k (Nat.lt_of_lt_of_le hk h.size) fun e1 => ?_).trans (h.block k hk hd)
    rcases h.lies k e1.symm with e2 | e2
    · exact hd e2
    · omega
  · obtain ⟨cs1, h1, h2⟩ := h.shape k hd hk cs hc
    by_cases hv : v.ownBlock = some k
    · obtain ⟨cs2, h3, h4⟩ := hsh k hv cs1 h1
      exact ⟨cs2, h3, h4.trans h2⟩
    · exact ⟨cs1, (hg.block k (Nat.lt_of_lt_of_le hk h.size) (Ne.symm hv)).trans h1, h2⟩

theorem news_of {w : World} {ad : Addr} {ns : List UInt8} (hn : ∀ j (h : j < ns.length), w.cell? (ad.add j) = some (.int .u8 (ns[j].toNat : Int))) : ∀ j u, (Lib.byteCells ns)[j]? = some u → w.cell? (ad.add j) = some u := by
  intro j u hu
  unfold Lib.byteCells at hu
  rw [List.getElem?_map] at hu
  cases hj : ns[j]? with
  | none => rw [hj] at hu; cases hu
  | some b =>
    rw [hj] at hu
    obtain ⟨hlt, hb⟩ := List.getElem?_eq_some_iff.1 hj
    have := hn j hlt
    rw [hb] at this
    rw [this]
    exact hu

/-- An append of the bytes at an address. -/
theorem run_append_ap (t ty e : TypeId) (i : TypeInfo) (ht : P.underlying t = some (.slice e)) (hi : P.info? e = some i) (hz : i.zero = some (.int .u8 0)) (hsize : i.size = 1) (hby : i.bytes = 1)
    {B : Nat} {d : Option Nat} {W : World} {v : Value} {ks : List UInt8} (h : Ap e B d W w v ks) (ad : Addr) (m c : Nat) (ns : List UInt8) (hl : ns.length = m) (hn : ∀ j (h : j < ns.length), w.cell? (ad.add j) = some (.int .u8 (ns[j].toNat : Int)))
    (hlim : ks.length + m ≤ 140737488355328) :
    ∃ v' w', (Builtin.append_ #[t, t] ty #[v, .slice (some ad) m c]).run P w = .ok v' w' ∧ Ap e B d W w' v' (ks ++ ns) ∧ w.grownBy w' v.ownBlock := by
  subst hl
  have hnl : (Lib.byteCells ns).length = ns.length * 1 := by rw [Lib.byteCells_length, Nat.mul_one]
  have hml : ks.length + ns.length ≤ maxLen := by unfold maxLen; omega
  obtain ⟨v', w', hr, h2, h3, _⟩ := run_append_own (P := P) w B t ty e i (.int .u8 0) 1 1 ht hi hz hsize hby rfl (by decide) v ks.length (Lib.byteCells ks) h.own ad ns.length c (Lib.byteCells ns) hnl (news_of hn) (Lib.byteCells_one ns) hml (by omega) (Nat.le_trans h.base h.size)
  obtain ⟨s1, s2⟩ := append_shape (P := P) w t t ty e i (.int .u8 0) B ht hi hz hsize hby v ks.length (Lib.byteCells ks) h.own (.slice (some ad) ns.length c) ns.length (Lib.byteCells ns) (Src.ofSlice w ht ad ns.length c _ hnl (news_of hn) (Lib.byteCells_one ns)) hml hlim hr
  exact ⟨v', w', hr, h.grown h2 h3 s1 s2, h3⟩

/-- An append of a string. -/
theorem run_append_ap_string (t u ty e : TypeId) (i : TypeInfo) (ht : P.underlying t = some (.slice e)) (hu : P.underlying u = some .string) (hi : P.info? e = some i) (hz : i.zero = some (.int .u8 0)) (hsize : i.size = 1) (hby : i.bytes = 1)
    {B : Nat} {d : Option Nat} {W : World} {v : Value} {ks : List UInt8} (h : Ap e B d W w v ks) (s : ByteArray) (hlim : ks.length + s.size ≤ 140737488355328) :
    ∃ v' w', (Builtin.append_ #[t, u] ty #[v, .string s]).run P w = .ok v' w' ∧ Ap e B d W w' v' (ks ++ s.data.toList) ∧ w.grownBy w' v.ownBlock := by
  have hml : ks.length + s.size ≤ maxLen := by unfold maxLen; omega
  obtain ⟨v', w', hr, h2, h3, _⟩ := Lib.run_append_own_string (P := P) w B t u ty e i ht hu hi hz hsize hby v ks.length (Lib.byteCells ks) h.own s hml hlim (Nat.le_trans h.base h.size)
  obtain ⟨s1, s2⟩ := append_shape (P := P) w t u ty e i (.int .u8 0) B ht hi hz hsize hby v ks.length (Lib.byteCells ks) h.own (.string s) s.size _ (Src.ofString w hu s) hml hlim hr
  exact ⟨v', w', hr, h.grown (by exact h2) h3 s1 s2, h3⟩

/-- At the operation. -/
theorem wp_append_ap {o : Oper} {a : Act} {K : Act → World → Prop} {Q : Exit → Act → World → Prop} (s x : Operand) (t : TypeId)
    (ho : o.op = .call { callee := .builtin .append, args := #[s, x], argTypes := #[t, t] })
    (e : TypeId) (i : TypeInfo) (ht : P.underlying t = some (.slice e)) (hi : P.info? e = some i) (hz : i.zero = some (.int .u8 0)) (hsize : i.size = 1) (hby : i.bytes = 1)
    {B : Nat} {d : Option Nat} {W : World} {v : Value} {ks : List UInt8} (hs : a.eval s = v) (h : Ap e B d W w v ks) (ad : Addr) (m c : Nat) (ns : List UInt8) (hx : a.eval x = .slice (some ad) m c) (hl : ns.length = m)
    (hn : ∀ j (h : j < ns.length), w.cell? (ad.add j) = some (.int .u8 (ns[j].toNat : Int))) (hlim : ks.length + m ≤ 140737488355328)
    (hK : ∀ v' w', Ap e B d W w' v' (ks ++ ns) → w.grownBy w' v.ownBlock → K (a.put o.dst v') w') : o.wp P a w K Q := by
  obtain ⟨v', w', hr, h2, h3⟩ := run_append_ap (P := P) w t o.type e i ht hi hz hsize hby h ad m c ns hl hn hlim
  unfold Oper.wp execOp
  simp only [ho, resolve, invoke, builtin, Sem.run_bind, Sem.run_pure, Result.andThen_ok, List.map_toArray, List.map_cons, List.map_nil, hs, hx, hr]
  exact hK v' w' h2 h3

/-- At the list of a plain region's operations. -/
theorem wpList_append_ap {ops : Array Oper} {rest : List Oper} {o : Oper} {a : Act} {Q : Exit → Act → World → Prop} (hgd : o.guard = none) (s x : Operand) (t : TypeId)
    (ho : o.op = .call { callee := .builtin .append, args := #[s, x], argTypes := #[t, t] })
    (e : TypeId) (i : TypeInfo) (ht : P.underlying t = some (.slice e)) (hi : P.info? e = some i) (hz : i.zero = some (.int .u8 0)) (hsize : i.size = 1) (hby : i.bytes = 1)
    {B : Nat} {d : Option Nat} {W : World} {v : Value} {ks : List UInt8} (hs : a.eval s = v) (h : Ap e B d W w v ks) (ad : Addr) (m c : Nat) (ns : List UInt8) (hx : a.eval x = .slice (some ad) m c) (hl : ns.length = m)
    (hn : ∀ j (h : j < ns.length), w.cell? (ad.add j) = some (.int .u8 (ns[j].toNat : Int))) (hlim : ks.length + m ≤ 140737488355328)
    (hK : ∀ v' w', Ap e B d W w' v' (ks ++ ns) → w.grownBy w' v.ownBlock → wpList P ops Q rest (a.put o.dst v') w') : wpList P ops Q (o :: rest) a w :=
  wpList_plain hgd fun _ hK' => wp_append_ap w s x t ho e i ht hi hz hsize hby hs h ad m c ns hx hl hn hlim fun v' w' h2 h3 => hK' _ _ (hK v' w' h2 h3)

/-- The same where the address of the source is told by cases: an empty end of a slice keeps the old address. -/
theorem wpList_append_ap_if {ops : Array Oper} {rest : List Oper} {o : Oper} {a : Act} {Q : Exit → Act → World → Prop} (hgd : o.guard = none) (s x : Operand) (t : TypeId)
    (ho : o.op = .call { callee := .builtin .append, args := #[s, x], argTypes := #[t, t] })
    (e : TypeId) (i : TypeInfo) (ht : P.underlying t = some (.slice e)) (hi : P.info? e = some i) (hz : i.zero = some (.int .u8 0)) (hsize : i.size = 1) (hby : i.bytes = 1)
    {B : Nat} {d : Option Nat} {W : World} {v : Value} {ks : List UInt8} (hs : a.eval s = v) (h : Ap e B d W w v ks) {p : Prop} [Decidable p] {a1 a2 : Addr} {m c : Nat} (ns : List UInt8) (hx : a.eval x = .slice (if p then some a1 else some a2) m c) (hl : ns.length = m)
    (hp : p → m = 0) (hn : ∀ j (h : j < ns.length), w.cell? (a2.add j) = some (.int .u8 (ns[j].toNat : Int))) (hlim : ks.length + m ≤ 140737488355328)
    (hK : ∀ v' w', Ap e B d W w' v' (ks ++ ns) → w.grownBy w' v.ownBlock → wpList P ops Q rest (a.put o.dst v') w') : wpList P ops Q (o :: rest) a w := by
  by_cases h0 : p
  · rw [if_pos h0] at hx
    exact wpList_append_ap w hgd s x t ho e i ht hi hz hsize hby hs h a1 m c ns hx hl (fun j hj => absurd hj (by rw [hl, hp h0]; exact Nat.not_lt_zero j)) hlim hK
  · rw [if_neg h0] at hx
    exact wpList_append_ap w hgd s x t ho e i ht hi hz hsize hby hs h a2 m c ns hx hl hn hlim hK

/-- At a step of a region that draws its order. -/
theorem step_append_ap {ops : Array Oper} {o : Oper} {a : Act} {K : Act → World → Prop} {Q : Exit → Act → World → Prop} {E : Prop} (hgd : o.guard = none) (s x : Operand) (t : TypeId)
    (ho : o.op = .call { callee := .builtin .append, args := #[s, x], argTypes := #[t, t] })
    (e : TypeId) (i : TypeInfo) (ht : P.underlying t = some (.slice e)) (hi : P.info? e = some i) (hz : i.zero = some (.int .u8 0)) (hsize : i.size = 1) (hby : i.bytes = 1)
    {B : Nat} {d : Option Nat} {W : World} {v : Value} {ks : List UInt8} (hs : a.eval s = v) (h : Ap e B d W w v ks) (ad : Addr) (m c : Nat) (ns : List UInt8) (hx : a.eval x = .slice (some ad) m c) (hl : ns.length = m)
    (hn : ∀ j (h : j < ns.length), w.cell? (ad.add j) = some (.int .u8 (ns[j].toNat : Int))) (hlim : ks.length + m ≤ 140737488355328)
    (hK : ∀ v' w', Ap e B d W w' v' (ks ++ ns) → w.grownBy w' v.ownBlock → K (a.put o.dst v') w') :
    if Region.wanted o (yielded ops a.tmps) = true then Oper.wp P o a w K Q else E := by
  have hw : Region.wanted o (yielded ops a.tmps) = true := by simp [Region.wanted, hgd]
  rw [if_pos hw]
  exact wp_append_ap w s x t ho e i ht hi hz hsize hby hs h ad m c ns hx hl hn hlim hK

/-- A string, at the list of a plain region's operations. -/
theorem wpList_append_ap_string {ops : Array Oper} {rest : List Oper} {o : Oper} {a : Act} {Q : Exit → Act → World → Prop} (hgd : o.guard = none) (s x : Operand) (t u : TypeId)
    (ho : o.op = .call { callee := .builtin .append, args := #[s, x], argTypes := #[t, u] })
    (e : TypeId) (i : TypeInfo) (ht : P.underlying t = some (.slice e)) (hu : P.underlying u = some .string) (hi : P.info? e = some i) (hz : i.zero = some (.int .u8 0)) (hsize : i.size = 1) (hby : i.bytes = 1)
    {B : Nat} {d : Option Nat} {W : World} {v : Value} {ks : List UInt8} (hs : a.eval s = v) (h : Ap e B d W w v ks) (str : ByteArray) (hx : a.eval x = .string str) (hlim : ks.length + str.size ≤ 140737488355328)
    (hK : ∀ v' w', Ap e B d W w' v' (ks ++ str.data.toList) → w.grownBy w' v.ownBlock → wpList P ops Q rest (a.put o.dst v') w') : wpList P ops Q (o :: rest) a w := by
  refine wpList_plain hgd fun K hK' => ?_
  obtain ⟨v', w', hr, h2, h3⟩ := run_append_ap_string (P := P) w t u o.type e i ht hu hi hz hsize hby h str hlim
  unfold Oper.wp execOp
  simp only [ho, resolve, invoke, builtin, Sem.run_bind, Sem.run_pure, Result.andThen_ok, List.map_toArray, List.map_cons, List.map_nil, hs, hx, hr]
  exact hK' _ _ (hK v' w' h2 h3)

end
end Go.Proofs.YtlmhpmbgalmpgaaGreatDoor
