/-
  The shelf's contracts on bytes.Buffer at this program, laid by the kit's tool in plain words; the ones that are used.
-/
import Derived.Shelf.Bytes.Len
import Derived.Shelf.Bytes.TryGrow
import Derived.Shelf.Bytes.String
import Derived.Shelf.Bytes.GrowOwn
import Derived.Shelf.Bytes.WriteAny
import Derived.Test.YtlmhpmbgalmpgaaGreatDoorChecked
namespace Go.Proofs
open Go.Shelf
def Tryz.laysM181_ren : Go.Shelf.Ren := ⟨fun | 181 => 55 | n => n, fun | 130 => 48 | 3 => 3 | 0 => 0 | 93 => 44 | 37 => 40 | 91 => 42 | 5 => 5 | n => n, fun | n => n⟩
theorem Tryz.laysM181 : Go.Proofs.LaysM.n181 Tryz.prog Tryz.laysM181_ren := {
  mixed := by kernel_rfl
  f181 := Tryz.func55.trans (congrArg some (by kernel_rfl))
  t0 := Tryz.underlying0
  a0 := Tryz.isAgg0
  z0 := Tryz.sizeOf0
  v0 := Tryz.zeroValue0
  t3 := Tryz.underlying3
  a3 := Tryz.isAgg3
  z3 := Tryz.sizeOf3
  v3 := Tryz.zeroValue3
  t37 := Tryz.underlying40
  a37 := Tryz.isAgg40
  z37 := Tryz.sizeOf40
  v37 := Tryz.zeroValue40
  t93 := Tryz.underlying44
  a93 := Tryz.isAgg44
  z93 := Tryz.sizeOf44
  v93 := Tryz.zeroValue44
  t130 := Tryz.underlying48
  a130 := Tryz.isAgg48
  z130 := Tryz.sizeOf48
  v130 := Tryz.zeroValue48
  t5 := Tryz.underlying5
  a5 := Tryz.isAgg5
  z5 := Tryz.sizeOf5
  v5 := Tryz.zeroValue5
  t91 := Tryz.underlying42
  a91 := Tryz.isAgg42
  z91 := Tryz.sizeOf42
  v91 := Tryz.zeroValue42
  i0 := by kernel_rfl
  i3 := by kernel_rfl
  i5 := by kernel_rfl
  i37 := by kernel_rfl
  i91 := by kernel_rfl
  i93 := by kernel_rfl
  i130 := by kernel_rfl }
open Go.RowKit in
theorem Tryz.Buffer_Len (B b : Nat) (bs : List Value) (w : World) (h : Lib.IsBuffer 44 5 B b bs w) :
    Calls Tryz.prog 55 #[.pointer (some ⟨b, 0, none⟩)] w fun e w' => e = .returned (.int .i64 bs.length) ∧ ∃ n, w' = w.drewN n := Any.Buffer_Len Tryz.laysM181 B b bs w h
def Tryz.laysM251_ren : Go.Shelf.Ren := ⟨fun | 251 => 47 | n => n, fun | 130 => 48 | 3 => 3 | 4 => 4 | 0 => 0 | 93 => 44 | 37 => 40 | 91 => 42 | 5 => 5 | n => n, fun | n => n⟩
theorem Tryz.laysM251 : Go.Proofs.LaysM.n251 Tryz.prog Tryz.laysM251_ren := {
  mixed := by kernel_rfl
  f251 := Tryz.func47.trans (congrArg some (by kernel_rfl))
  t0 := Tryz.underlying0
  a0 := Tryz.isAgg0
  z0 := Tryz.sizeOf0
  v0 := Tryz.zeroValue0
  t3 := Tryz.underlying3
  a3 := Tryz.isAgg3
  z3 := Tryz.sizeOf3
  v3 := Tryz.zeroValue3
  t4 := Tryz.underlying4
  a4 := Tryz.isAgg4
  z4 := Tryz.sizeOf4
  v4 := Tryz.zeroValue4
  t37 := Tryz.underlying40
  a37 := Tryz.isAgg40
  z37 := Tryz.sizeOf40
  v37 := Tryz.zeroValue40
  t93 := Tryz.underlying44
  a93 := Tryz.isAgg44
  z93 := Tryz.sizeOf44
  v93 := Tryz.zeroValue44
  t130 := Tryz.underlying48
  a130 := Tryz.isAgg48
  z130 := Tryz.sizeOf48
  v130 := Tryz.zeroValue48
  t5 := Tryz.underlying5
  a5 := Tryz.isAgg5
  z5 := Tryz.sizeOf5
  v5 := Tryz.zeroValue5
  t91 := Tryz.underlying42
  a91 := Tryz.isAgg42
  z91 := Tryz.sizeOf42
  v91 := Tryz.zeroValue42
  i0 := by kernel_rfl
  i3 := by kernel_rfl
  i4 := by kernel_rfl
  i5 := by kernel_rfl
  i37 := by kernel_rfl
  i91 := by kernel_rfl
  i93 := by kernel_rfl
  i130 := by kernel_rfl }
open Go.RowKit in
theorem Tryz.Buffer_tryGrow_room (b : Nat) (ao : Option Addr) (l cap n : Nat) (w : World) (c0 : w.cell? ⟨b, 0, none⟩ = some (.slice ao l cap)) (f0 : w.frozen? ⟨b, 0, none⟩ = false) (hlc : l ≤ cap) (hcap : cap ≤ maxLen) (hn : n ≤ cap - l) :
    Calls Tryz.prog 47 #[.pointer (some ⟨b, 0, none⟩), .int .i64 n] w fun e w' => e = .returned (.tuple #[.int .i64 l, .bool true]) ∧ w' = w.setCell ⟨b, 0, none⟩ (.slice ao (l + n) cap) := Any.Buffer_tryGrow_room Tryz.laysM251 b ao l cap n w c0 f0 hlc hcap hn
open Go.RowKit in
theorem Tryz.Buffer_tryGrow_none (b : Nat) (ao : Option Addr) (l cap n : Nat) (w : World) (c0 : w.cell? ⟨b, 0, none⟩ = some (.slice ao l cap)) (hlc : l ≤ cap) (hcap : cap ≤ maxLen) (hn : cap - l < n) :
    Calls Tryz.prog 47 #[.pointer (some ⟨b, 0, none⟩), .int .i64 n] w fun e w' => e = .returned (.tuple #[.int .i64 0, .bool false]) ∧ w' = w := Any.Buffer_tryGrow_none Tryz.laysM251 b ao l cap n w c0 hlc hcap hn
def Tryz.laysM182_ren : Go.Shelf.Ren := ⟨fun | 182 => 19 | n => n, fun | 130 => 48 | 9 => 9 | 4 => 4 | 0 => 0 | 93 => 44 | 37 => 40 | 3 => 3 | 91 => 42 | 5 => 5 | n => n, fun | n => n⟩
theorem Tryz.laysM182 : Go.Proofs.LaysM.n182 Tryz.prog Tryz.laysM182_ren := {
  mixed := by kernel_rfl
  f182 := Tryz.func19.trans (congrArg some (by kernel_rfl))
  t0 := Tryz.underlying0
  a0 := Tryz.isAgg0
  z0 := Tryz.sizeOf0
  v0 := Tryz.zeroValue0
  t3 := Tryz.underlying3
  a3 := Tryz.isAgg3
  z3 := Tryz.sizeOf3
  v3 := Tryz.zeroValue3
  t4 := Tryz.underlying4
  a4 := Tryz.isAgg4
  z4 := Tryz.sizeOf4
  v4 := Tryz.zeroValue4
  t9 := Tryz.underlying9
  a9 := Tryz.isAgg9
  z9 := Tryz.sizeOf9
  v9 := Tryz.zeroValue9
  t37 := Tryz.underlying40
  a37 := Tryz.isAgg40
  z37 := Tryz.sizeOf40
  v37 := Tryz.zeroValue40
  t93 := Tryz.underlying44
  a93 := Tryz.isAgg44
  z93 := Tryz.sizeOf44
  v93 := Tryz.zeroValue44
  t130 := Tryz.underlying48
  a130 := Tryz.isAgg48
  z130 := Tryz.sizeOf48
  v130 := Tryz.zeroValue48
  t5 := Tryz.underlying5
  a5 := Tryz.isAgg5
  z5 := Tryz.sizeOf5
  v5 := Tryz.zeroValue5
  t91 := Tryz.underlying42
  a91 := Tryz.isAgg42
  z91 := Tryz.sizeOf42
  v91 := Tryz.zeroValue42
  i0 := by kernel_rfl
  i3 := by kernel_rfl
  i4 := by kernel_rfl
  i5 := by kernel_rfl
  i9 := by kernel_rfl
  i37 := by kernel_rfl
  i91 := by kernel_rfl
  i93 := by kernel_rfl
  i130 := by kernel_rfl }
open Go.RowKit in
theorem Tryz.Buffer_String (B b : Nat) (l : List UInt8) (w : World) (h : Lib.IsBuffer 44 5 B b (Lib.byteCells l) w) :
    Calls Tryz.prog 19 #[.pointer (some ⟨b, 0, none⟩)] w fun e w' => e = .returned (.string ⟨l.toArray⟩) ∧ ∃ n, w' = w.drewN n := Any.Buffer_String Tryz.laysM182 B b l w h
def Tryz.laysM252_ren : Go.Shelf.Ren := ⟨fun | 252 => 45 | 181 => 55 | 184 => 56 | 251 => 47 | 290 => 57 | 324 => 62 | n => n, fun | 130 => 48 | 3 => 3 | 4 => 4 | 0 => 0 | 93 => 44 | 131 => 102 | 37 => 40 | 75 => 46 | 91 => 42 | 20 => 20 | 5 => 5 | 80 => 50 | 9 => 9 | n => n, fun | 14 => 2 | n => n⟩
theorem Tryz.laysM252 : Go.Proofs.LaysM.n252 Tryz.prog Tryz.laysM252_ren := {
  mixed := by kernel_rfl
  f181 := Tryz.func55.trans (congrArg some (by kernel_rfl))
  f184 := Tryz.func56.trans (congrArg some (by kernel_rfl))
  f251 := Tryz.func47.trans (congrArg some (by kernel_rfl))
  f252 := Tryz.func45.trans (congrArg some (by kernel_rfl))
  f290 := Tryz.func57.trans (congrArg some (by kernel_rfl))
  f324 := Tryz.func62.trans (congrArg some (by kernel_rfl))
  t0 := Tryz.underlying0
  a0 := Tryz.isAgg0
  z0 := Tryz.sizeOf0
  v0 := Tryz.zeroValue0
  t3 := Tryz.underlying3
  a3 := Tryz.isAgg3
  z3 := Tryz.sizeOf3
  v3 := Tryz.zeroValue3
  t4 := Tryz.underlying4
  a4 := Tryz.isAgg4
  z4 := Tryz.sizeOf4
  v4 := Tryz.zeroValue4
  t20 := Tryz.underlying20
  a20 := Tryz.isAgg20
  z20 := Tryz.sizeOf20
  v20 := Tryz.zeroValue20
  t37 := Tryz.underlying40
  a37 := Tryz.isAgg40
  z37 := Tryz.sizeOf40
  v37 := Tryz.zeroValue40
  t75 := Tryz.underlying46
  a75 := Tryz.isAgg46
  z75 := Tryz.sizeOf46
  v75 := Tryz.zeroValue46
  t91 := Tryz.underlying42
  a91 := Tryz.isAgg42
  z91 := Tryz.sizeOf42
  v91 := Tryz.zeroValue42
  t93 := Tryz.underlying44
  a93 := Tryz.isAgg44
  z93 := Tryz.sizeOf44
  v93 := Tryz.zeroValue44
  t130 := Tryz.underlying48
  a130 := Tryz.isAgg48
  z130 := Tryz.sizeOf48
  v130 := Tryz.zeroValue48
  t131 := Tryz.underlying102
  a131 := Tryz.isAgg102
  z131 := Tryz.sizeOf102
  v131 := Tryz.zeroValue102
  g14 := by kernel_rfl
  t5 := Tryz.underlying5
  a5 := Tryz.isAgg5
  z5 := Tryz.sizeOf5
  v5 := Tryz.zeroValue5
  t9 := Tryz.underlying9
  a9 := Tryz.isAgg9
  z9 := Tryz.sizeOf9
  v9 := Tryz.zeroValue9
  t80 := Tryz.underlying50
  a80 := Tryz.isAgg50
  z80 := Tryz.sizeOf50
  v80 := Tryz.zeroValue50
  i0 := by kernel_rfl
  i3 := by kernel_rfl
  i4 := by kernel_rfl
  i5 := by kernel_rfl
  i9 := by kernel_rfl
  i20 := by kernel_rfl
  i37 := by kernel_rfl
  i75 := by kernel_rfl
  i80 := by kernel_rfl
  i91 := by kernel_rfl
  i93 := by kernel_rfl
  i130 := by kernel_rfl
  i131 := by kernel_rfl
  m14 := by kernel_rfl }
open Go.RowKit in
theorem Tryz.Buffer_grow_own (B b n : Nat) (bs : List Value) (w : World) (h : Lib.IsBuffer 44 5 B b bs w) (hnr : Lib.NoRoom b n w) (hBw : B ≤ w.heap.size) (h1 : ∀ v ∈ bs, v.oneCell' = true) (hlim : bs.length + n ≤ 140737488355328) :
    Calls Tryz.prog 45 #[.pointer (some ⟨b, 0, none⟩), .int .i64 n] w fun e w' => e = .returned (.int .i64 bs.length) ∧ ∃ xs, xs.length = n ∧ Lib.IsBuffer 44 5 B b (bs ++ xs) w' ∧ Below B w w' ∧ Lib.OthersKept 5 (some b) w w' ∧ w.grownBy w' (some b) := Any.Buffer_grow_own Tryz.laysM252 B b n bs w h hnr hBw h1 hlim
def Tryz.laysM180_ren : Go.Shelf.Ren := ⟨fun | 180 => 33 | 251 => 47 | 252 => 45 | 181 => 55 | 184 => 56 | 290 => 57 | 324 => 62 | n => n, fun | 130 => 48 | 37 => 40 | 3 => 3 | 75 => 46 | 0 => 0 | 93 => 44 | 91 => 42 | 131 => 102 | 4 => 4 | 20 => 20 | 5 => 5 | 80 => 50 | 9 => 9 | n => n, fun | 14 => 2 | n => n⟩
theorem Tryz.laysM180 : Go.Proofs.LaysM.n180 Tryz.prog Tryz.laysM180_ren := {
  mixed := by kernel_rfl
  f180 := Tryz.func33.trans (congrArg some (by kernel_rfl))
  f181 := Tryz.func55.trans (congrArg some (by kernel_rfl))
  f184 := Tryz.func56.trans (congrArg some (by kernel_rfl))
  f251 := Tryz.func47.trans (congrArg some (by kernel_rfl))
  f252 := Tryz.func45.trans (congrArg some (by kernel_rfl))
  f290 := Tryz.func57.trans (congrArg some (by kernel_rfl))
  f324 := Tryz.func62.trans (congrArg some (by kernel_rfl))
  t0 := Tryz.underlying0
  a0 := Tryz.isAgg0
  z0 := Tryz.sizeOf0
  v0 := Tryz.zeroValue0
  t3 := Tryz.underlying3
  a3 := Tryz.isAgg3
  z3 := Tryz.sizeOf3
  v3 := Tryz.zeroValue3
  t4 := Tryz.underlying4
  a4 := Tryz.isAgg4
  z4 := Tryz.sizeOf4
  v4 := Tryz.zeroValue4
  t20 := Tryz.underlying20
  a20 := Tryz.isAgg20
  z20 := Tryz.sizeOf20
  v20 := Tryz.zeroValue20
  t37 := Tryz.underlying40
  a37 := Tryz.isAgg40
  z37 := Tryz.sizeOf40
  v37 := Tryz.zeroValue40
  t75 := Tryz.underlying46
  a75 := Tryz.isAgg46
  z75 := Tryz.sizeOf46
  v75 := Tryz.zeroValue46
  t91 := Tryz.underlying42
  a91 := Tryz.isAgg42
  z91 := Tryz.sizeOf42
  v91 := Tryz.zeroValue42
  t93 := Tryz.underlying44
  a93 := Tryz.isAgg44
  z93 := Tryz.sizeOf44
  v93 := Tryz.zeroValue44
  t130 := Tryz.underlying48
  a130 := Tryz.isAgg48
  z130 := Tryz.sizeOf48
  v130 := Tryz.zeroValue48
  t131 := Tryz.underlying102
  a131 := Tryz.isAgg102
  z131 := Tryz.sizeOf102
  v131 := Tryz.zeroValue102
  g14 := by kernel_rfl
  t5 := Tryz.underlying5
  a5 := Tryz.isAgg5
  z5 := Tryz.sizeOf5
  v5 := Tryz.zeroValue5
  t9 := Tryz.underlying9
  a9 := Tryz.isAgg9
  z9 := Tryz.sizeOf9
  v9 := Tryz.zeroValue9
  t80 := Tryz.underlying50
  a80 := Tryz.isAgg50
  z80 := Tryz.sizeOf50
  v80 := Tryz.zeroValue50
  i0 := by kernel_rfl
  i3 := by kernel_rfl
  i4 := by kernel_rfl
  i5 := by kernel_rfl
  i9 := by kernel_rfl
  i20 := by kernel_rfl
  i37 := by kernel_rfl
  i75 := by kernel_rfl
  i80 := by kernel_rfl
  i91 := by kernel_rfl
  i93 := by kernel_rfl
  i130 := by kernel_rfl
  i131 := by kernel_rfl
  m14 := by kernel_rfl }
open Go.RowKit in
theorem Tryz.Buffer_Write_any (B b : Nat) (bs cs : List Value) (a : Addr) (n c : Nat) (w : World) (h : Lib.IsBuffer 44 5 B b bs w) (hBw : B ≤ w.heap.size) (h1 : ∀ v ∈ bs, v.oneCell' = true) (hn : cs.length = n) (hab : a.block ≠ b) (hsrc : ∀ j v, cs[j]? = some v → w.cell? (a.add j) = some v) (h1c : ∀ v ∈ cs, v.oneCell' = true) (hlim : bs.length + n ≤ 140737488355328) :
    Calls Tryz.prog 33 #[.pointer (some ⟨b, 0, none⟩), .slice (some a) n c] w fun e w' => e = .returned (.tuple #[.int .i64 n, .nilIface]) ∧ Lib.IsBuffer 44 5 B b (bs ++ cs) w' ∧ Below B w w' ∧ Lib.OthersKept 5 (some b) w w' := Any.Buffer_Write_any Tryz.laysM180 B b bs cs a n c w h hBw h1 hn hab hsrc h1c hlim
end Go.Proofs
