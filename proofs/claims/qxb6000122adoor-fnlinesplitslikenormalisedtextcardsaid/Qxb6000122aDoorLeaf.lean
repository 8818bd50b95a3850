import Derived.Test.Qxb6000122aDoorProg
import Derived.KernelRfl
import Derived.WalkKit
import Derived.WalkSpells
import Derived.WalkLawsBesides
import Derived.Lib.SliceRun
import Derived.Laws.IdiomCopy
import Derived.Deep.QuietTactic
import Derived.BigQuiet
import Derived.Handy
namespace Go.Proofs.Qxb6000122aDoor
open Go.RowKit

theorem info5 : (Tryd.prog.info? 5).map (fun i => (i.zero, i.size, i.bytes)) = some (some (.int .u8 0), 1, 1) := by kernel_rfl

/-- The n cells at ⟨b, off⟩ hold the bytes g 0, g 1, .. -/
def BA (w : World) (b off : Nat) (g : Nat → UInt8) (n : Nat) : Prop := ∀ j, j < n → w.cell? ⟨b, off + j, none⟩ = some (.int .u8 (g j).toNat)
def isEnd (x : UInt8) : Bool := x == 13 || x == 10
def NoEnd (g : Nat → UInt8) (i : Nat) : Prop := ∀ j, j < i → isEnd (g j) = false
/-- r is the place of the first CR or LF of the first n bytes, or -1. -/
def IsFirst (g : Nat → UInt8) (n : Nat) (r : Int) : Prop := (r = -1 ∧ NoEnd g n) ∨ ∃ i : Nat, r = i ∧ i < n ∧ NoEnd g i ∧ isEnd (g i) = true
theorem NoEnd.zero (g : Nat → UInt8) : NoEnd g 0 := fun _ h => absurd h (Nat.not_lt_zero _)
theorem NoEnd.succ {g : Nat → UInt8} {i : Nat} (h : NoEnd g i) (hn : isEnd (g i) = false) : NoEnd g (i + 1) := fun j hj => by
  by_cases e : j = i
  · subst e; exact hn
  · exact h j (by omega)
theorem isEnd_int (x : UInt8) : ((x.toNat : Int) == 13 || (x.toNat : Int) == 10) = isEnd x := by
  unfold isEnd
  have h13 : ((x.toNat : Int) == 13) = (x == 13) := by
    rw [Bool.eq_iff_iff, beq_iff_eq, beq_iff_eq]
    constructor
    · intro h; exact UInt8.toNat.inj (by simp; omega)
    · intro h; subst h; rfl
  have h10 : ((x.toNat : Int) == 10) = (x == 10) := by
    rw [Bool.eq_iff_iff, beq_iff_eq, beq_iff_eq]
    constructor
    · intro h; exact UInt8.toNat.inj (by simp; omega)
    · intro h; subst h; rfl
  rw [h13, h10]

/-- n cells: the first k bytes of s, zeros behind them. -/
def clArr (g : Nat → UInt8) (k n : Nat) : Array Value := Array.ofFn (n := n) fun i => .int .u8 (if i.1 < k then ((g i.1).toNat : Int) else 0)
theorem clArr_size (g : Nat → UInt8) (k n : Nat) : (clArr g k n).size = n := by simp [clArr]
theorem clArr_made (g : Nat → UInt8) (n : Nat) : madeCells #[Value.int .u8 0] n = clArr g 0 n := by
  apply Array.ext
  · simp [clArr, madeCells]
  · intro i h1 h2
    simp [clArr, madeCells, Nat.mod_one]
theorem clArr_set (g : Nat → UInt8) (k n : Nat) (_hk : k < n) : (clArr g k n).setIfInBounds k (.int .u8 (g k).toNat) = clArr g (k + 1) n := by
  apply Array.ext
  · simp [clArr]
  · intro i h1 h2
    rw [Array.getElem_setIfInBounds (by rw [clArr_size]; rw [clArr_size] at h2; exact h2)]
    simp only [clArr, Array.getElem_ofFn]
    by_cases e : k = i
    · subst e; simp
    · by_cases h : i < k
      · rw [if_neg e, if_pos h, if_pos (show i < k + 1 by omega)]
      · rw [if_neg e, if_neg h, if_neg (show ¬ i < k + 1 by omega)]
theorem clArr_get (g : Nat → UInt8) (n j : Nat) (hj : j < n) : (clArr g n n)[j]? = some (.int .u8 (g j).toNat) := by
  rw [Array.getElem?_eq_getElem (by rw [clArr_size]; exact hj)]
  simp [clArr]
theorem clArr_BA (w : World) (g : Nat → UInt8) (n : Nat) : BA (w.alloc (.cells (clArr g n n) 5)) w.heap.size 0 g n := fun j hj => by
  rw [Nat.zero_add, World.cell?_alloc_at _ _ _ _ rfl, clArr_get g _ _ hj]

set_option maxHeartbeats 400000 in
/-- zzBytes: the bound on the total length. -/
theorem zzBytes_any (a : Option Addr) (n c : Nat) (w : World) (hn : n ≤ maxLen) :
    Calls Tryd.prog 5 #[.slice a n c] w fun e w' => e = .returned (.bool (decide (n ≤ 1048576))) ∧ w' = w := by
  unfold maxLen at hn
  by_cases h : n ≤ 1048576
  · have h1 : ¬ ((1048576 : Int) < (n : Int)) := by omega
    go_enter Tryd.func5, Tryd.ntmps5
    go_wp2
    go_ret
    exact ⟨by simp, rfl⟩
  · have h1 : ((1048576 : Int) < (n : Int)) := by omega
    go_enter Tryd.func5, Tryd.ntmps5
    go_wp2
    go_ret
    exact ⟨by simp [h], rfl⟩

set_option maxHeartbeats 400000 in
theorem useSet_any (n : Int) (w : World) :
    Calls Tryd.prog 14 #[.int .i64 n] w fun e w' => e = .returned (.bool (decide (8 < n))) ∧ w' = w := by
  go_enter Tryd.func14, Tryd.ntmps14
  go_wp2
  go_ret
  exact ⟨rfl, rfl⟩

set_option maxHeartbeats 400000 in
theorem set_contains (b : Nat) (x : UInt8) (v : Bool) (w : World) (hc : w.cell? ⟨b, x.toNat, none⟩ = some (.bool v)) :
    Calls Tryd.prog 16 #[.pointer (some ⟨b, 0, none⟩), .int .u8 x.toNat] w fun e w' => e = .returned (.bool v) ∧ w' = w := by
  have hx256 : (x.toNat : Int) < 256 := by have := UInt8.toNat_lt x; omega
  go_enter Tryd.func16, Tryd.ntmps16
  go_wp2
  go_ret
  exact ⟨rfl, rfl⟩

/-! zzClone -/
set_option maxHeartbeats 400000 in
theorem zzClone_nil (w : World) :
    Calls Tryd.prog 6 #[.slice none 0 0] w fun e w' => e = .returned (.slice none 0 0) ∧ w' = w := by
  have q22 : ∀ (w : World) (a : Option Addr) (n c n' c' : Nat), (binOp .eql 22 (.slice a n c) (.slice none n' c')).run Tryd.prog w = .ok (.bool a.isNone) w := fun w a n c n' c' => Lib.run_eql_slice_nil w _ _ a n c n' c' Tryd.underlying22
  go_enter Tryd.func6, Tryd.ntmps6
  go_wp2
  go_ret
  exact ⟨rfl, rfl⟩

/-- The bytes as cells. -/
def byteVals (g : Nat → UInt8) (n : Nat) : List Value := (List.range n).map fun j => .int .u8 (g j).toNat
theorem byteVals_length (g : Nat → UInt8) (n : Nat) : (byteVals g n).length = n := by simp [byteVals]
theorem byteVals_get (g : Nat → UInt8) (n j : Nat) (h : j < n) : (byteVals g n)[j]? = some (.int .u8 (g j).toNat) := by simp [byteVals, h]
theorem below_setCells {B : Nat} {w0 : World} (b : Nat) (hb : B ≤ b) : ∀ (vs : List Value) (o : Nat) (w : World), Below B w0 w → Below B w0 (w.setCells b o vs)
  | [], _, _, h => h
  | _ :: r, o, _, h => below_setCells b hb r (o + 1) _ (h.setCell hb _)
theorem size_setCells (b : Nat) : ∀ (vs : List Value) (o : Nat) (w : World), (w.setCells b o vs).heap.size = w.heap.size
  | [], _, _ => rfl
  | _ :: r, o, w => by rw [World.setCells, size_setCells b r (o + 1)]; simp

set_option maxHeartbeats 400000 in
theorem zzClone_some (g : Nat → UInt8) (n : Nat) (x : Addr) (c : Nat) (w : World) (hs : n ≤ 1048576) (hc : ∀ j, j < n → x.block < w.heap.size ∧ w.cell? (x.add j) = some (.int .u8 (g j).toNat)) :
    Calls Tryd.prog 6 #[.slice (some x) n c] w fun e w' => e = .returned (.slice (some ⟨w.heap.size, 0, none⟩) n n) ∧ BA w' w.heap.size 0 g n ∧ Below w.heap.size w w' ∧ w.heap.size < w'.heap.size := by
  have hmk : ∀ W : World, (Instr.makeSlice 22 (.int .i64 (n : Int)) (.int .i64 (n : Int))).run Tryd.prog W = .ok (.slice (some ⟨W.heap.size, 0, none⟩) n n) (W.alloc (.cells (clArr g 0 n) 5)) := fun W => by
    obtain ⟨i0, hi, hz0, hz1, hz2⟩ := info_parts info5
    have h := run_make (P := Tryd.prog) W 22 5 i0 (.int .u8 0) Tryd.underlying22 hi hz0 .i64 .i64 n n (by omega) (by omega) (by rw [hz2]; omega) (by omega)
    rw [h, hz1]
    simp only [Int.toNat_natCast, Nat.mul_one]
    rw [← clArr_made g n]
    rfl
  have hB1 : Below w.heap.size w (w.alloc (.cells (clArr g 0 n) 5)) := (Below.refl _ _).alloc (Nat.le_refl _) _
  have hsome : ∀ j, j < n → ((w.alloc (.cells (clArr g 0 n) 5)).cell? ⟨w.heap.size, 0 + j, none⟩).isSome = true := fun j hj => by
    rw [Nat.zero_add, World.cell?_alloc_at _ _ _ _ rfl, Array.getElem?_eq_getElem (by rw [clArr_size]; exact hj)]
    rfl
  have hcp : ∀ ty, (Builtin.copy_ #[22, 22] ty #[.slice (some ⟨w.heap.size, 0, none⟩) n n, .slice (some x) n c]).run Tryd.prog (w.alloc (.cells (clArr g 0 n) 5)) = .ok (goInt n) ((w.alloc (.cells (clArr g 0 n) 5)).setCells w.heap.size 0 (byteVals g n)) := fun ty => by
    have h := run_copy_cells (P := Tryd.prog) (w.alloc (.cells (clArr g 0 n) 5)) 22 22 ty 5 w.heap.size 0 n n x n c (byteVals g n) Tryd.underlying22 (by kernel_rfl) (by rw [byteVals_length]; exact (Nat.min_self n).symm)
      (fun j v hv => by
        have hj : j < n := by
          have := (List.getElem?_eq_some_iff.1 hv).1
          rwa [byteVals_length] at this
        rw [byteVals_get g n j hj] at hv
        rw [← Option.some.inj hv]
        obtain ⟨h1, h2⟩ := hc j hj
        refine (hB1.cell (p := x.add j) ?_).trans h2
        have : (x.add j).block = x.block := by unfold Addr.add; split <;> rfl
        rw [this]
        exact h1)
      (fun j hj => hsome j (by rwa [byteVals_length] at hj)) (fun j _ => by simp [go_sem]) (fun v hv => by
        obtain ⟨j, _, rfl⟩ := List.mem_map.1 hv
        rfl)
    rw [byteVals_length] at h
    exact h
  have hB2 := below_setCells w.heap.size (Nat.le_refl _) (byteVals g n) 0 _ hB1
  have hBA : BA ((w.alloc (.cells (clArr g 0 n) 5)).setCells w.heap.size 0 (byteVals g n)) w.heap.size 0 g n := fun j hj => by
    have := World.cell?_setCells_in w.heap.size (byteVals g n) 0 (w.alloc (.cells (clArr g 0 n) 5)) (fun j hj => hsome j (by rwa [byteVals_length] at hj)) j (by rw [byteVals_length]; exact hj)
    rw [this]
    have h2 := byteVals_get g n j hj
    rw [List.getElem?_eq_getElem (by rw [byteVals_length]; exact hj)] at h2
    exact h2
  have hsz : w.heap.size < ((w.alloc (.cells (clArr g 0 n) 5)).setCells w.heap.size 0 (byteVals g n)).heap.size := by
    rw [size_setCells]; simp
  generalize (w.alloc (.cells (clArr g 0 n) 5)).setCells w.heap.size 0 (byteVals g n) = w2 at hcp hB2 hBA hsz
  have q22 : ∀ (w : World) (a : Option Addr) (n c n' c' : Nat), (binOp .eql 22 (.slice a n c) (.slice none n' c')).run Tryd.prog w = .ok (.bool a.isNone) w := fun w a n c n' c' => Lib.run_eql_slice_nil w _ _ a n c n' c' Tryd.underlying22
  have H1 : Hid (BA w2 w.heap.size 0 g n ∧ Below w.heap.size w w2 ∧ w.heap.size < w2.heap.size) := ⟨hBA, hB2, hsz⟩
  clear hBA hB2 hsz hsome hB1
  go_enter Tryd.func6, Tryd.ntmps6
  go_wp2
  go_ret
  exact ⟨rfl, H1.out⟩

/-! zzEqual of two slices that hold the same bytes -/
set_option maxHeartbeats 400000 in
theorem zzEqual_empty (a a' : Option Addr) (c c' : Nat) (w : World) :
    Calls Tryd.prog 8 #[.slice a 0 c, .slice a' 0 c'] w fun e w' => e = .returned (.bool true) ∧ w' = w := by
  go_enter Tryd.func8, Tryd.ntmps8
  go_wp2
  go_loop [5] (fun i => i = .int .i64 0) (fun _ => 0)
  case atStart => rfl
  case round =>
    subst hrel
    go_wp2
    go_ret
    exact ⟨rfl, rfl⟩

set_option maxHeartbeats 400000 in
theorem zzEqual_same (g : Nat → UInt8) (n : Nat) (b off c b' off' c' : Nat) (w : World) (hs : n ≤ 1048576) (hc : BA w b off g n) (hc' : BA w b' off' g n) :
    Calls Tryd.prog 8 #[.slice (some ⟨b, off, none⟩) n c, .slice (some ⟨b', off', none⟩) n c'] w fun e w' => e = .returned (.bool true) ∧ ∃ q, w' = w.drewN q := by
  have hne : ((n : Int) != (n : Int)) = false := by simp
  go_enter Tryd.func8, Tryd.ntmps8
  go_wp2
  go_loopw [5] (fun i wr => ∃ k q : Nat, k ≤ n ∧ i = .int .i64 k ∧ wr = w.drewN q) (fun i _ => n - (intOf i).toNat)
  case atStart => exact ⟨0, 0, by omega, rfl, rfl⟩
  case round =>
    obtain ⟨k, q, hk, rfl, rfl⟩ := hrel
    by_cases hlt : k < n
    · have hck := hc k hlt
      have hck' := hc' k hlt
      have hlz : (k : Int) < (n : Int) := by omega
      have hnk : ((((g k).toNat : Nat) : Int) != (((g k).toNat : Nat) : Int)) = false := by simp
      go_wp2
      go_quiet (fail)
      go_wp2
      go_roundw
      case rel => exact ⟨k + 1, q + nq, by omega, by go_num, by simp⟩
      case measure => simp [intOf]; omega
    · have e : k = n := by omega
      subst e
      go_wp2
      go_ret
      exact ⟨rfl, q, rfl⟩

end Go.Proofs.Qxb6000122aDoor
