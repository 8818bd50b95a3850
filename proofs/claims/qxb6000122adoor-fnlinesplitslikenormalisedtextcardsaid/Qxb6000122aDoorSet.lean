import Derived.Test.Qxb6000122aDoorLeaf
import Derived.Lib.AsciiSet
import Derived.Lib.IndexBytes
import Derived.Lib.Strings
import Derived.Laws.Strings3
import Derived.Laws.ResultCell
import Derived.Deep.LoopGhost
import Derived.Deep.WholeRow
namespace Go.Proofs.Qxb6000122aDoor
open Go.RowKit
/-- The string "\r\n". -/
def crlf : ByteArray := ⟨#[13, 10]⟩
def ends : List UInt8 := [13, 10]
theorem info41 : (Tryd.prog.info? 41).map (·.size) = some 256 := by kernel_rfl
theorem zero41 (w : World) : (zeroValue 41).run Tryd.prog w = .ok (.agg (Lib.setCells [])) w := by kernel_rfl

/-- What the walk is told of the program. -/
structure Facts (P : Program) : Prop where
  t3 : P.underlying 3 = some (.int .i64)
  a3 : ∀ w, (isAgg 3).run P w = .ok false w
  z3 : ∀ w, (Go.sizeOf 3).run P w = .ok 1 w
  v3 : ∀ w, (zeroValue 3).run P w = .ok (.int .i64 0) w
  t4 : P.underlying 4 = some .bool
  a4 : ∀ w, (isAgg 4).run P w = .ok false w
  z4 : ∀ w, (Go.sizeOf 4).run P w = .ok 1 w
  v4 : ∀ w, (zeroValue 4).run P w = .ok (.bool false) w
  t5 : P.underlying 5 = some (.int .u8)
  a5 : ∀ w, (isAgg 5).run P w = .ok false w
  z5 : ∀ w, (Go.sizeOf 5).run P w = .ok 1 w
  v5 : ∀ w, (zeroValue 5).run P w = .ok (.int .u8 0) w
  t9 : P.underlying 9 = some .string
  a9 : ∀ w, (isAgg 9).run P w = .ok false w
  z9 : ∀ w, (Go.sizeOf 9).run P w = .ok 1 w
  t41 : P.underlying 41 = some (.array 256 4)
  a41 : ∀ w, (isAgg 41).run P w = .ok true w
  z41 : ∀ w, (Go.sizeOf 41).run P w = .ok 256 w
  v41 : ∀ w, (zeroValue 41).run P w = .ok (.agg (Lib.setCells [])) w
  i41 : (P.info? 41).map (·.size) = some 256
  f17 : P.funcs[15]? = some Tryd.f15

theorem facts : Facts Tryd.prog where
  t3 := Tryd.underlying3
  a3 := Tryd.isAgg3
  z3 := Tryd.sizeOf3
  v3 := Tryd.zeroValue3
  t4 := Tryd.underlying4
  a4 := Tryd.isAgg4
  z4 := Tryd.sizeOf4
  v4 := Tryd.zeroValue4
  t5 := Tryd.underlying5
  a5 := Tryd.isAgg5
  z5 := Tryd.sizeOf5
  v5 := Tryd.zeroValue5
  t9 := Tryd.underlying9
  a9 := Tryd.isAgg9
  z9 := Tryd.sizeOf9
  t41 := Tryd.underlying41
  a41 := Tryd.isAgg41
  z41 := Tryd.sizeOf41
  v41 := zero41
  i41 := info41
  f17 := Tryd.func15

set_option maxHeartbeats 1000000 in
set_option maxRecDepth 1000000 in
theorem makeSet_gen {P : Program} (L : Facts P) (chars : ByteArray) (w : World) (hs : chars.size < 1000)
    (hascii : ∀ (j : Nat) b, chars.data.toList[j]? = some b → b.toNat < 128) :
    Calls P 15 #[.string chars] w fun e w' => e = .returned (.tuple #[.agg (Lib.setCells chars.data.toList), .bool true]) ∧ w' = w.alloc (.cells (Lib.setCells chars.data.toList) 41) := by
  have HA : Aside (∀ (j : Nat) b, chars.data.toList[j]? = some b → b.toNat < 128) := hascii
  clear hascii
  have t3 := L.t3; have a3 := L.a3; have z3 := L.z3; have v3 := L.v3
  have t4 := L.t4; have a4 := L.a4; have z4 := L.z4; have v4 := L.v4
  have t5 := L.t5; have a5 := L.a5; have z5 := L.z5; have v5 := L.v5
  have t9 := L.t9; have a9 := L.a9; have z9 := L.z9
  have t41 := L.t41
  have v41 := L.v41
  go_enter L.f17, Tryd.ntmps15
  go_wp2
  go_loopg [4] chars.size (fun g s4 wx => ∃ i : Nat, i + g = chars.size ∧ s4 = .int .i64 i ∧ wx = w.alloc (.cells (Lib.setCells (chars.data.toList.take i)) 41))
  case atStart => exact ⟨0, by omega, rfl, rfl⟩
  case round =>
    obtain ⟨i, hig, rfl, rfl⟩ := hrel
    cases gk with
    | zero =>
      obtain rfl : i = chars.size := by omega
      have hiz : ¬ ((chars.size : Int) < (chars.size : Int)) := by omega
      rw [show chars.data.toList.take chars.size = chars.data.toList from List.take_of_length_le (by rw [← Lib.size_eq]; exact Nat.le_refl _)]
      have hld := run_loadVar_new (P := P) w 41 (Lib.setCells chars.data.toList) 256 4 L.t41 (by rw [Lib.setCells_size]; exact L.i41)
      have hsz := Lib.setCells_size chars.data.toList
      have hlc := run_loadCellsFrom_new (P := P) w 41 (Lib.setCells chars.data.toList) 256 hsz
      have hsc := run_storeCells_new (P := P) w 41 (Lib.setCells chars.data.toList) (Lib.setCells chars.data.toList) (by rw [hsz]; exact L.i41) rfl (Lib.setCells_one _)
      go_wp2
      simp only [L.a41, L.z41, Result.andThen, ↓reduceIte, hlc]
      rw [Oper.upon_value]
      go_wp2
      simp only [L.z41, Result.andThen, ↓reduceIte, hsc]
      rw [Oper.upon_skip]
      go_wp2
      (try simp only [Exit.inBlock, Exit.then])
      refine bodyPost_ret (v := .tuple #[.agg (Lib.setCells chars.data.toList), .bool true]) ?_ rfl ⟨rfl, rfl⟩
      rw [results_cell_tmp rfl]
      simp [asAddr, Result.andThen, hld]
    | succ g =>
      have hi : i < chars.size := by omega
      have hiz : (i : Int) < (chars.size : Int) := by omega
      obtain ⟨x, hx⟩ : ∃ x : UInt8, chars[i]'hi = x := ⟨_, rfl⟩
      have hxl : chars.data.toList[i]? = some x := by rw [← hx]; exact Lib.data_getElem? chars i hi
      have hx128 : ¬ ((128 : Int) ≤ (x.toNat : Int)) := by have := HA.out i x hxl; omega
      have hx256 : (x.toNat : Int) < 256 := by have := HA.out i x hxl; omega
      have hcell := Lib.setCells_at (chars.data.toList.take i) x
      have Hx : Aside (chars.data.toList[i]? = some x) := hxl
      clear hxl
      go_wp2
      go_roundg g
      case measure => omega
      case rel => exact ⟨i + 1, by omega, by first | rfl | simp, by rw [List.take_add_one, Hx.out]; simp only [Option.toList]; rw [Lib.setCells_snoc]⟩

theorem makeSet (w : World) :
    Calls Tryd.prog 15 #[.string crlf] w fun e w' => e = .returned (.tuple #[.agg (Lib.setCells ends), .bool true]) ∧ w' = w.alloc (.cells (Lib.setCells ends) 41) :=
  makeSet_gen facts crlf w (by decide) (by
    intro j b h
    match j, h with
    | 0, h => have e : (13 : UInt8) = b := by simpa [crlf] using h
              subst e; decide
    | 1, h => have e : (10 : UInt8) = b := by simpa [crlf] using h
              subst e; decide
    | j + 2, h => simp [crlf] at h)
end Go.Proofs.Qxb6000122aDoor
