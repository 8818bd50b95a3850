import Derived.Test.Qxb6000122aDoorSet
import Derived.Laws.RangeString
import Derived.Laws.Externs
import Derived.Lib.Bytealg
import Derived.Lib.Walk
namespace Go.Proofs.Qxb6000122aDoor
open Go.RowKit

theorem toNat_toUInt8 (x : UInt8) : ((x.toNat : Int)).toNat.toUInt8 = x := by simp
theorem isEnd_cases {x : UInt8} (h : isEnd x = true) : x = 13 ∨ x = 10 := by simpa [isEnd] using h
/-- internal/bytealg.IndexByteString at "\r\n". -/
theorem call14_hit (x : UInt8) (h : isEnd x = true) : ∃ r : Int, 0 ≤ r ∧ r ≤ 1 ∧ ∀ w, (callFunc 12 #[.string ⟨#[13, 10]⟩, .int .u8 x.toNat]).run Tryd.prog w = .ok (.value (.int .i64 r)) w := by
  refine ⟨Lib.indexByte [13, 10] x, ?_, ?_, fun w => ?_⟩
  · rcases isEnd_cases h with rfl | rfl <;> decide
  · rcases isEnd_cases h with rfl | rfl <;> decide
  · rw [run_callFunc_extern Tryd.func12 (by kernel_rfl) (by kernel_rfl) (by kernel_rfl) (e := Extern.BytealgIndexByte.indexByte) (by kernel_rfl), Lib.run_indexByteString, toNat_toUInt8]
    rfl
theorem call14_miss (x : UInt8) (h : isEnd x = false) : ∀ w, (callFunc 12 #[.string ⟨#[13, 10]⟩, .int .u8 x.toNat]).run Tryd.prog w = .ok (.value (.int .i64 (-1))) w := by
  intro w
  rw [run_callFunc_extern Tryd.func12 (by kernel_rfl) (by kernel_rfl) (by kernel_rfl) (e := Extern.BytealgIndexByte.indexByte) (by kernel_rfl), Lib.run_indexByteString, toNat_toUInt8]
  have h1 : (13 == x) = false := by
    rw [beq_eq_false_iff_ne]; intro e; subst e; exact absurd h (by decide)
  have h2 : (10 == x) = false := by
    rw [beq_eq_false_iff_ne]; intro e; subst e; exact absurd h (by decide)
  simp [Lib.indexByte, h1, h2, Result.andThen]

set_option maxHeartbeats 1000000 in
theorem any_empty (a : Option Addr) (c : Nat) (w : World) :
    Calls Tryd.prog 11 #[.slice a 0 c, .string ⟨#[13, 10]⟩] w fun e w' => e = .returned (.int .i64 (-1)) ∧ w' = w := by
  go_enter Tryd.func11, Tryd.ntmps11
  go_wp2_with (go_at_call 14; refine (useSet_any _ _).mono ?_; rintro e w' ⟨rfl, hw⟩; rw [hw])
  go_loop [12] (fun i => i = .int .i64 0) (fun _ => 0)
  case atStart => rfl
  case round =>
    subst hrel
    go_wp2
    go_ret
    exact ⟨rfl, rfl⟩

set_option maxHeartbeats 1000000 in
theorem any_one_low (b off c : Nat) (x : UInt8) (w : World) (h : x.toNat < 128) (hc : w.cell? ⟨b, off, none⟩ = some (.int .u8 x.toNat)) :
    Calls Tryd.prog 11 #[.slice (some ⟨b, off, none⟩) 1 c, .string ⟨#[13, 10]⟩] w fun e w' => e = .returned (.int .i64 (if isEnd x then 0 else -1)) ∧ w' = w := by
  have h128 : ¬ ((128 : Int) ≤ (x.toNat : Int)) := by omega
  cases hE : isEnd x
  · have hk := call14_miss x hE
    go_enter Tryd.func11, Tryd.ntmps11
    go_wp2
    go_ret
    exact ⟨rfl, rfl⟩
  · obtain ⟨r, hr0, _, hk⟩ := call14_hit x hE
    go_enter Tryd.func11, Tryd.ntmps11
    go_wp2
    go_ret
    exact ⟨rfl, rfl⟩

set_option maxHeartbeats 1000000 in
theorem any_one_high (b off c : Nat) (x : UInt8) (w : World) (h : ¬ x.toNat < 128) (hc : w.cell? ⟨b, off, none⟩ = some (.int .u8 x.toNat)) :
    Calls Tryd.prog 11 #[.slice (some ⟨b, off, none⟩) 1 c, .string ⟨#[13, 10]⟩] w fun e w' => e = .returned (.int .i64 (-1)) ∧ Below w.heap.size w w' := by
  have h128 : ((128 : Int) ≤ (x.toNat : Int)) := by omega
  have h256 : (x.toNat : Int) < 256 := by have := UInt8.toNat_lt x; omega
  go_enter Tryd.func11, Tryd.ntmps11
  go_wp2
  go_loopg [5] 2 (fun g _ wx => ∃ i : Nat, i + g = 2 ∧ wx = w.iter ⟨#[13, 10]⟩ i)
  case atStart => exact ⟨0, rfl, rfl⟩
  case round =>
    obtain ⟨i, hig, rfl⟩ := hrel
    match gk, i, hig with
    | 0, i, hig =>
      obtain rfl : i = 2 := by omega
      have hnx : ∀ ty, (Instr.next (.pointer (some ⟨w.heap.size, 0, none⟩)) true ty).run Tryd.prog (w.iter ⟨#[13, 10]⟩ 2) = .ok (.tuple #[.bool false]) (w.iter ⟨#[13, 10]⟩ 2) := fun ty => run_next_end (P := Tryd.prog) w ⟨#[13, 10]⟩ 2 ty (by decide)
      go_wp2
      go_ret
      exact ⟨rfl, (Below.refl _ _).alloc (Nat.le_refl _) _⟩
    | 1, i, hig =>
      obtain rfl : i = 1 := by omega
      have hnx : ∀ ty, (Instr.next (.pointer (some ⟨w.heap.size, 0, none⟩)) true ty).run Tryd.prog (w.iter ⟨#[13, 10]⟩ 1) = .ok (.tuple #[.bool true, .int .i64 1, .int .i32 10]) (w.iter ⟨#[13, 10]⟩ 2) := fun ty => run_next_ascii (P := Tryd.prog) w ⟨#[13, 10]⟩ 1 ty (by decide) (by decide)
      go_wp2
      go_roundg 0
      case measure => omega
      case rel => exact ⟨2, by omega, rfl⟩
    | 2, i, hig =>
      obtain rfl : i = 0 := by omega
      have hnx : ∀ ty, (Instr.next (.pointer (some ⟨w.heap.size, 0, none⟩)) true ty).run Tryd.prog (w.iter ⟨#[13, 10]⟩ 0) = .ok (.tuple #[.bool true, .int .i64 0, .int .i32 13]) (w.iter ⟨#[13, 10]⟩ 1) := fun ty => run_next_ascii (P := Tryd.prog) w ⟨#[13, 10]⟩ 0 ty (by decide) (by decide)
      go_wp2
      go_roundg 1
      case measure => omega
      case rel => exact ⟨1, by omega, rfl⟩
    | g + 3, i, hig => exact absurd hig (by omega)
end Go.Proofs.Qxb6000122aDoor
