import Derived.Test.Qxb6605564aDoorPlain
import Derived.Test.Qxb6605564aDoorProg
import Derived.KernelRfl
import Derived.WalkKit
import Derived.WalkSpells
import Derived.WalkLawsBesides
import Derived.Lib.SlBytesRow
import Derived.Handy
namespace Go.Proofs.Qxb6605564aDoor
open Go.RowKit
theorem hide {p : Prop} (h : p) : Hid p := h

theorem str_getElem (D : List UInt8) (j : Nat) (h : j < (str D).size) : (str D)[j] = D.getD j 0 := by
  rw [str_size] at h
  show D.toArray[j] = _
  simp [List.getD, List.getElem?_eq_getElem h]
/-- zzUtoa's array: the digits D at its end. -/
def uArr (D : List UInt8) : Array Value := Array.ofFn (n := 20) fun i => .int .u8 (if i.1 < 20 - D.length then 0 else ((D.getD (i.1 - (20 - D.length)) 0).toNat : Int))
theorem uArr_size (D : List UInt8) : (uArr D).size = 20 := by simp [uArr]
theorem uArr_set (D : List UInt8) (c : UInt8) (h : D.length < 20) : (uArr D).setIfInBounds (19 - D.length) (.int .u8 c.toNat) = uArr (c :: D) := by
  apply Array.ext
  · simp [uArr]
  · intro i h1 h2
    have hi : i < 20 := by rw [uArr_size] at h2; exact h2
    rw [Array.getElem_setIfInBounds (by rw [uArr_size]; exact hi)]
    simp only [uArr, Array.getElem_ofFn, List.length_cons]
    by_cases e : 19 - D.length = i
    · rw [if_pos e, if_neg (by omega), show i - (20 - (D.length + 1)) = 0 by omega]
      rfl
    · rw [if_neg e]
      by_cases hl : i < 20 - D.length
      · rw [if_pos hl, if_pos (by omega)]
      · rw [if_neg hl, if_neg (by omega), show i - (20 - (D.length + 1)) = (i - (20 - D.length)) + 1 by omega, List.getD_cons_succ]
theorem uArr_at (D : List UInt8) (j : Nat) (h : D.length ≤ 20) (hj : j < D.length) : (uArr D)[20 - D.length + j]? = some (.int .u8 (D.getD j 0).toNat) := by
  rw [Array.getElem?_eq_getElem (by rw [uArr_size]; omega)]
  simp only [uArr, Array.getElem_ofFn]
  rw [if_neg (by omega), show 20 - D.length + j - (20 - D.length) = j by omega]

theorem slice20 (W : World) (b ix : Nat) (h : ix < 20) : (Instr.sliceAt 31 (.pointer (some ⟨b, 0, none⟩)) (some (.int .i64 (ix : Int))) none none).run Tryd.prog W = .ok (.slice (some ⟨b, ix, none⟩) (20 - ix) (20 - ix)) W := by
  have hl : Tryd.prog.arrayLen 31 = 20 := by kernel_rfl
  have he : Tryd.prog.elem 31 = 5 := by kernel_rfl
  have h1 := run_sliceAt_array_l (P := Tryd.prog) W 31 ⟨b, 0, none⟩ (by rw [hl, he]; exact Tryd.underlying31) .i64 ix (by omega) (by rw [hl]; omega)
  rw [h1, hl, he, Tryd.sizeOf5]
  have hne : ¬ 20 = ix := by omega
  simp [Result.andThen, slicedAt, hne, Addr.add]
  intro e
  rw [e]

set_option maxHeartbeats 1000000 in
set_option maxRecDepth 100000 in
theorem utoa_any (n : Nat) (w : World) (hn : n < two64) :
    Calls Tryd.prog 8 #[.int .u64 n] w fun e w' => e = .returned (.string (str (utoa n))) ∧ Below w.heap.size w w' := by
  by_cases h0 : n = 0
  · subst h0
    go_enter Tryd.func8, Tryd.ntmps8
    go_wp2
    go_ret
    exact ⟨rfl, Below.refl _ _⟩
  · have h0z : ((n : Int) == 0) = false := beq_eq_false_iff_ne.2 (by omega)
    have HU : Hid (utoa n = dF n) := by
      show utoa n = dF n
      unfold utoa; rw [if_neg h0]
    have HZ := hide h0
    have HN := hide hn
    clear h0 hn
    go_enter Tryd.func8, Tryd.ntmps8
    go_wp2_with fail
    go_loopw [0, 4] (fun nv iv wr => ∃ (m : Nat) (D : List UInt8), nv = .int .u64 m ∧ (∃ ix : Nat, iv = .int .i64 ix ∧ ix + D.length = 20) ∧ wr = w.alloc (.cells (uArr D) 31) ∧ dF m ++ D = dF n ∧ m ≤ n) (fun nv _ _ => (intOf nv).toNat)
    case atStart => exact ⟨n, [], rfl, ⟨20, rfl, rfl⟩, rfl, by simp, Nat.le_refl _⟩
    case round =>
      obtain ⟨m, D, rfl, ⟨ix, rfl, hix⟩, rfl, hD, hmn⟩ := hrel
      have HD := hide hD
      have HX := hide hix
      clear hD
      by_cases hm : m = 0
      · subst hm
        have hlen : 1 ≤ D.length := by
          have h1 := HD.out
          rw [dF_zero, List.nil_append] at h1
          rw [h1]
          exact dF_pos n HZ.out HN.out
        have hx20 : ix < 20 := by omega
        have hxz : (ix : Int) < 20 := by omega
        have hB : Below w.heap.size w (w.alloc (.cells (uArr D) 31)) := (Below.refl _ _).alloc (Nat.le_refl _) _
        have hby : Lib.Bytes (w.alloc (.cells (uArr D) 31)) w.heap.size ix (str D) := fun j hj => by
          have hj' := hj
          rw [str_size] at hj'
          rw [World.cell?_alloc_at _ _ _ _ rfl, show ix + j = 20 - D.length + j by have := HX.out; omega, uArr_at D j (by have := HX.out; omega) hj', str_getElem]
        have hcv := Lib.run_convert_whole (P := Tryd.prog) (w.alloc (.cells (uArr D) 31)) 32 5 9 Tryd.underlying32 Tryd.underlying5 Tryd.underlying9 w.heap.size ix (str D) hby (20 - ix)
        have hfin : str (utoa n) = str D := by
          have h1 := HD.out
          rw [dF_zero, List.nil_append] at h1
          rw [HU.out, ← h1]
        rw [str_size, show D.length = 20 - ix by have := HX.out; omega] at hcv
        have hsl := fun W => slice20 W w.heap.size ix hx20
        generalize w.alloc (.cells (uArr D) 31) = wA at hB hcv ⊢
        have HF := hide hfin
        have HB := hide hB
        clear hfin hB hby hix
        go_wp2
        go_ret
        rw [HF.out]
        exact ⟨rfl, HB.out⟩
      · have hmz : (0 : Int) < (m : Int) := by omega
        have hst := dF_step m hm (by have := HN.out; omega)
        have hl2 := dF_len 20 n
        have hx0 : 1 ≤ ix := by
          have h1 := congrArg List.length HD.out
          have h2 := dF_pos m hm (by have := HN.out; omega)
          rw [List.length_append] at h1
          have h3 : (dF n).length ≤ 20 := hl2
          omega
        obtain ⟨iy, rfl⟩ : ∃ iy, ix = iy + 1 := ⟨ix - 1, by omega⟩
        have hxz2 : (iy : Int) < 20 := by omega
        have hmd : 0 ≤ (m : Int) % 10 := by omega
        have hmd2 : (m : Int) % 10 ≤ 9 := by omega
        have HS := hide hst
        have hset := uArr_set D (UInt8.ofNat (48 + m % 10)) (by omega)
        rw [digit_toNat, show 19 - D.length = iy by omega, show ((48 + m % 10 : Nat) : Int) = 48 + (m : Int) % 10 by omega] at hset
        have hwr : IntKind.u64.wrap ((m : Int) / 10) = ((m / 10 : Nat) : Int) := by
          have h1 := HN.out
          unfold two64 at h1
          rw [IntWalk.u64_in _ (by omega)]
          omega
        have HW := hide hwr
        clear hwr
        have hsz := uArr_size D
        generalize uArr D = A at hset hsz ⊢
        have hiy : iy < 20 := by omega
        obtain ⟨v, hv⟩ : ∃ v, A[iy]? = some v := ⟨A[iy]'(by omega), Array.getElem?_eq_getElem _⟩
        have HT := hide hset
        clear hst hl2 hix hset
        go_wp2
        rw [HW.out]
        go_roundw
        case rel => exact ⟨m / 10, UInt8.ofNat (48 + m % 10) :: D, rfl, ⟨iy, rfl, by have := HX.out; simp; omega⟩, by rw [HT.out], by rw [← HD.out, HS.out]; simp, by omega⟩
        case measure => simp [intOf]; omega
end Go.Proofs.Qxb6605564aDoor
