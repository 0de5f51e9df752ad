/-
  FnDeep's own work: the nested text.
-/
import Derived.Test.YtlmhpmbgalmpgaaDoorCp4
import Derived.Test.YtlmhpmbgalmpgaaDoorPl5
import Derived.Test.YtlmhpmbgalmpgaaDoorRd
import Derived.Deep.RegionHeld3
namespace Go.Proofs.YtlmhpmbgalmpgaaDoor
open Go.RowKit

/-- Two slices of bytes that the call has made. -/
structure Two (w wr : World) (a b : Value) (xs ys : List UInt8) : Prop where
  oa : wr.ownsRow w.heap.size 5 1 a xs.length (Lib.byteCells xs)
  ob : wr.ownsRow w.heap.size 5 1 b ys.length (Lib.byteCells ys)
  ne : ∀ k, a.ownBlock = some k → b.ownBlock ≠ some k
  below : Below w.heap.size w wr

theorem Two.left {w wr w' : World} {a b v : Value} {xs ys : List UInt8} {s : ByteArray} (h : Two w wr a b xs ys) (ho : w'.ownsRow w.heap.size 5 1 v (xs.length + s.size) (Lib.byteCells xs ++ Lib.strCells s)) (hg : wr.grownBy w' a.ownBlock) (hat : v.ownBlock = a.ownBlock ∨ v.ownBlock = some wr.heap.size) :
    Two w w' v b (xs ++ s.data.toList) ys := by
  refine ⟨?_, ownsRow_of_block h.ob fun k hk => hg.block k (h.ob.lt k hk).2 fun e => h.ne k e.symm hk, fun k hk hb => ?_, h.below.grown hg h.below.size fun k hk => (h.oa.lt k hk).1⟩
  · rw [List.length_append, Lib.byteCells_append]
    simp only [Array.length_toList]
    exact ho
  · rcases hat with e | e
    · exact h.ne k (e.symm.trans hk) hb
    · have h1 := (h.ob.lt k hb).2
      rw [hk] at e
      have : k = wr.heap.size := by simpa using e
      omega

theorem Two.right {w wr w' : World} {a b v : Value} {xs ys : List UInt8} {s : ByteArray} (h : Two w wr a b xs ys) (ho : w'.ownsRow w.heap.size 5 1 v (ys.length + s.size) (Lib.byteCells ys ++ Lib.strCells s)) (hg : wr.grownBy w' b.ownBlock) (hat : v.ownBlock = b.ownBlock ∨ v.ownBlock = some wr.heap.size) :
    Two w w' a v xs (ys ++ s.data.toList) := by
  refine ⟨ownsRow_of_block h.oa fun k hk => hg.block k (h.oa.lt k hk).2 fun e => h.ne k hk e.symm, ?_, fun k hk hb => ?_, h.below.grown hg h.below.size fun k hk => (h.ob.lt k hk).1⟩
  · rw [List.length_append, Lib.byteCells_append]
    simp only [Array.length_toList]
    exact ho
  · rcases hat with e | e
    · exact h.ne k hk (e.symm.trans hb)
    · have h1 := (h.oa.lt k hk).2
      rw [hb] at e
      have : k = wr.heap.size := by simpa using e
      omega

section
variable {P : Program} (w : World)

theorem wpList_append_str {ops : Array Oper} {rest : List Oper} {o : Oper} {a : Act} {Q : Exit → Act → World → Prop} (hgd : o.guard = none) (s x : Operand) (t u : TypeId)
    (ho : o.op = .call { callee := .builtin .append, args := #[s, x], argTypes := #[t, u] })
    (e : TypeId) (i : TypeInfo) (ht : P.underlying t = some (.slice e)) (hu : P.underlying u = some .string) (hi : P.info? e = some i) (hz : i.zero = some (.int .u8 0)) (hsize : i.size = 1) (hby : i.bytes = 1)
    {base n : Nat} {v : Value} {xs : List Value} (hs : a.eval s = v) (hown : w.ownsRow base e 1 v n xs) (str : ByteArray) (hx : a.eval x = .string str) (hlim : n + str.size ≤ 140737488355328) (hbase : base ≤ w.heap.size)
    (hK : ∀ v' w', w'.ownsRow base e 1 v' (n + str.size) (xs ++ Lib.strCells str) → w.grownBy w' v.ownBlock → (v'.ownBlock = v.ownBlock ∨ v'.ownBlock = some w.heap.size) → wpList P ops Q rest (a.put o.dst v') w') : wpList P ops Q (o :: rest) a w := by
  refine wpList_plain hgd fun K hK' => ?_
  have hml : n + str.size ≤ maxLen := by unfold maxLen; omega
  obtain ⟨v', w', hr, h2, h3, _⟩ := Lib.run_append_own_string (P := P) w base t u o.type e i ht hu hi hz hsize hby v n xs hown str hml hlim hbase
  obtain ⟨-, s2⟩ := append_shape (P := P) w t u o.type e i (.int .u8 0) base ht hi hz hsize hby v n xs hown (.string str) str.size _ (Src.ofString w hu str) hml hlim hr
  unfold Oper.wp execOp
  simp only [ho, resolve, invoke, builtin, Sem.run_bind, Sem.run_pure, Result.andThen_ok, List.map_toArray, List.map_cons, List.map_nil, hs, hx, hr]
  exact hK' _ _ (hK v' w' h2 h3 s2)

end

/-- A row of bytes as a string. -/
theorem row_string {w : World} {B : Nat} {v : Value} {xs : List UInt8} (h : w.ownsRow B 5 1 v xs.length (Lib.byteCells xs)) (h0 : 0 < xs.length) :
    (convert 26 9 v).run Tryd.prog w = .ok (.string ⟨xs.toArray⟩) w := by
  obtain ⟨q, cap, rfl, _⟩ := own_shape h h0
  refine run_convert_bytes_back (P := Tryd.prog) w 26 9 5 ⟨q, 0, none⟩ cap xs Tryd.underlying26 Tryd.underlying5 Tryd.underlying9 fun j hj => ?_
  refine h.cells (g := q) rfl j _ ?_
  simp [Lib.byteCells, hj]

theorem two_new (w : World) (A B : Array Value) (ca cb : Nat) (hA : A.size = ca) (hB : B.size = cb) (ha : ca ≤ maxLen) (hb : cb ≤ maxLen) :
    Two w ((w.drew.alloc (.cells A 5)).alloc (.cells B 5)) (.slice (some ⟨w.heap.size, 0, none⟩) 0 ca) (.slice (some ⟨w.heap.size + 1, 0, none⟩) 0 cb) [] [] := by
  have z1 : (w.drew.alloc (.cells A 5)).heap.size = w.heap.size + 1 := by simp
  refine ⟨⟨rfl, .inr ⟨w.heap.size, ca, A, rfl, Nat.le_refl _, ?_, Nat.zero_le _, ha, by omega, by simp [Lib.byteCells]⟩⟩, ⟨rfl, .inr ⟨w.heap.size + 1, cb, B, rfl, Nat.le_succ _, ?_, Nat.zero_le _, hb, by omega, by simp [Lib.byteCells]⟩⟩, ?_, ?_⟩
  · exact (Below.heap_alloc _ _ _ (by rw [z1]; exact Nat.lt_succ_self _)).trans (heap_alloc_new w.drew _)
  · rw [← z1]; exact heap_alloc_new _ _
  · intro k h1 h2
    simp [Value.ownBlock] at h1 h2
    omega
  · exact (((Below.refl _ w).drew).alloc (Nat.le_refl _) _).alloc (by rw [z1]; exact Nat.le_succ _) _

theorem Two.swap {w wr : World} {a b : Value} {xs ys : List UInt8} (h : Two w wr a b xs ys) : Two w wr b a ys xs := ⟨h.ob, h.oa, fun k h1 h2 => h.ne k h2 h1, h.below⟩

/-- The whole text. -/
def nest (n : Nat) (object : Bool) : ByteArray := ⟨(Js.rep n (Js.opn object)).toArray⟩ ++ ⟨#[49]⟩ ++ ⟨(Js.rep n (Js.cls object)).toArray⟩

theorem nest_list (n : Nat) (object : Bool) : (nest n object).data.toList = Js.rep n (Js.opn object) ++ [49] ++ Js.rep n (Js.cls object) := by
  unfold nest
  simp

theorem nest_size (n : Nat) (object : Bool) (hn : n ≤ 10050) : (nest n object).size ≤ 1000000 := by
  have : (nest n object).size = (nest n object).data.toList.length := by simp
  rw [this, nest_list]
  simp only [List.length_append, Js.rep_length, List.length_cons, List.length_nil]
  cases object <;> simp [Js.opn, Js.cls] <;> omega

/-- The behaviour of the two callees at the nested text. -/
theorem nest_acc (n : Nat) (object : Bool) (hn : 0 < n) : Js.acc Js.init (nest n object).data.toList = decide (n ≤ 10000) := by
  rw [nest_list]
  exact Js.deep_acc object n hn

theorem nest_yes (n : Nat) (object : Bool) (hn : 0 < n) (h : n ≤ 10000) (W : World) :
    Calls Tryd.prog 8 #[.string (nest n object)] W (fun e w' => ∃ out, e = .returned (.tuple #[.string out, .agg #[.int .i64 0, .int .i64 0, .string ⟨#[]⟩, .string ⟨#[]⟩, .string ⟨#[]⟩, .string ⟨#[]⟩], .bool true]) ∧ Below W.heap.size W w') := by
  refine (icompact_any (nest n object) (nest_size n object (by omega)) W).mono ?_
  rintro e w' ⟨hb, hy, -⟩
  exact ⟨_, hy (by rw [nest_acc n object hn, decide_eq_true h]), hb⟩

theorem nest_no (n : Nat) (object : Bool) (hn : 0 < n) (h2 : n ≤ 10050) (h : ¬ n ≤ 10000) (W : World) :
    Calls Tryd.prog 8 #[.string (nest n object)] W (fun e w' => ∃ k : Int, e = .returned (.tuple #[.string ⟨#[]⟩, .agg #[.int .i64 1, .int .i64 k, .string ⟨#[]⟩, .string ⟨#[]⟩, .string ⟨#[]⟩, .string ⟨#[]⟩], .bool false]) ∧ Below W.heap.size W w') := by
  refine (icompact_any (nest n object) (nest_size n object h2) W).mono ?_
  rintro e w' ⟨hb, -, hno⟩
  obtain ⟨v, ⟨k, hv⟩, he⟩ := hno (by rw [nest_acc n object hn, decide_eq_false h])
  subst hv
  exact ⟨k, he, hb⟩

theorem nest_valid (n : Nat) (object : Bool) (hn : 0 < n) (h2 : n ≤ 10050) (W : World) :
    Calls Tryd.prog 9 #[.string (nest n object)] W (fun e w' => e = .returned (.bool (decide (n ≤ 10000))) ∧ Below W.heap.size W w') := by
  have := valid_any (nest n object) (by have := nest_size n object h2; omega) W
  rw [nest_acc n object hn] at this
  exact this

theorem chain {w X w4 w5 : World} (h : Below w.heap.size w X) (h4 : Below X.heap.size X w4) (h5 : Below w4.heap.size w4 w5) : Below w.heap.size w w5 :=
  (h.trans (h4.mono h.size)).trans (h5.mono (Nat.le_trans h.size h4.size))

end Go.Proofs.YtlmhpmbgalmpgaaDoor
