import Derived.Test.Qxb6000122aDoorLine
import Derived.Test.Qxb6000122aDoorShelf
import Derived.Laws.Runes
import Derived.Lib.IndexEntry
namespace Go.Proofs.Qxb6000122aDoor
open Go.RowKit

/-- The first n bytes of g. -/
def bytesOf (g : Nat → UInt8) (n : Nat) : ByteArray := ⟨Array.ofFn (n := n) fun i => g i.1⟩
theorem bytesOf_size (g : Nat → UInt8) (n : Nat) : (bytesOf g n).size = n := by simp [bytesOf, ByteArray.size]
theorem bytesOf_get (g : Nat → UInt8) (n j : Nat) (h : j < n) : (bytesOf g n).get! j = g j := by
  show (Array.ofFn (n := n) fun i => g i.1)[j]! = g j
  rw [getElem!_pos _ _ (by simpa using h)]
  simp

/-- What the search asks of a decoded rune (r, k) at a byte beyond ASCII. -/
structure Dec (g : Nat → UInt8) (n : Nat) (r k : Nat) : Prop where
  k1 : 1 ≤ k
  kn : k ≤ n
  no : NoEnd g k
  lo : 128 ≤ r
  hi : r ≤ 1114111
  sz : r ≠ 65533 → (Utf8.encode r).size = k ∧ 2 ≤ k ∧ k ≤ 4

theorem encode_size (r : Nat) (lo : 128 ≤ r) (hv : r < 55296 ∨ (57344 ≤ r ∧ r ≤ 1114111)) :
    (Utf8.encode r).size = if r < 2048 then 2 else if r < 65536 then 3 else 4 := by
  have hval : Utf8.valid (r : Int) = true := by
    simp only [Utf8.valid, Bool.or_eq_true, Bool.and_eq_true, decide_eq_true_eq]
    omega
  unfold Utf8.encode
  rw [hval]
  simp only [if_true, Int.toNat_natCast]
  rw [if_neg (by omega)]
  split
  · rfl
  · split
    · rfl
    · rfl

theorem noEnd_high {g : Nat → UInt8} {k : Nat} (h : ∀ j, j < k → 128 ≤ (g j).toNat) : NoEnd g k := fun j hj => by
  have := h j hj
  cases he : isEnd (g j) with
  | false => rfl
  | true =>
    rcases isEnd_cases he with e | e <;> rw [e] at this <;> exact absurd this (by decide)

theorem dec_plain (g : Nat → UInt8) (n : Nat) (hn : 0 < n) (h0 : 128 ≤ (g 0).toNat) : Dec g n (Lib.decodeGo (bytesOf g n)).1 (Lib.decodeGo (bytesOf g n)).2 := by
  have hsz := bytesOf_size g n
  have e : Lib.decodeGo (bytesOf g n) = Lib.decodeN n ((bytesOf g n).get! 0).toNat ((bytesOf g n).get! 1).toNat ((bytesOf g n).get! 2).toNat ((bytesOf g n).get! 3).toNat := by
    unfold Lib.decodeGo
    rw [if_neg (by omega), Lib.decode_at, hsz]
    rfl
  rw [e]
  have g0 := bytesOf_get g n 0 hn
  have b1 := UInt8.toNat_lt ((bytesOf g n).get! 1)
  have b2 := UInt8.toNat_lt ((bytesOf g n).get! 2)
  have b3 := UInt8.toNat_lt ((bytesOf g n).get! 3)
  have b0 := UInt8.toNat_lt (g 0)
  rw [g0]
  have hbad : Dec g n 65533 1 := by
    refine ⟨by omega, by omega, noEnd_high (fun j hj => ?_), by omega, by omega, fun h => absurd rfl h⟩
    obtain rfl : j = 0 := by omega
    exact h0
  unfold Lib.decodeN
  rw [if_neg (by omega)]
  split
  · rename_i h
    obtain ⟨ha, hn1, hb⟩ := h
    rw [bytesOf_get g n 1 hn1] at hb b1 ⊢
    split
    · rename_i hc
      refine ⟨by omega, by omega, noEnd_high (fun j hj => ?_), by omega, by simp only; omega, fun _ => ⟨?_, by omega, by omega⟩⟩
      · match j, hj with
        | 0, _ => exact h0
        | 1, _ => omega
      · rw [encode_size _ (by omega) (by omega), if_pos (by simp only; omega)]
    · exact hbad
  · split
    · rename_i h
      obtain ⟨ha, ⟨hn1, hb⟩, hn2, hb2⟩ := h
      rw [bytesOf_get g n 1 hn1] at hb b1 ⊢
      rw [bytesOf_get g n 2 hn2] at hb2 b2 ⊢
      split
      · rename_i hc
        refine ⟨by omega, by omega, noEnd_high (fun j hj => ?_), by simp only; omega, by simp only; omega, fun _ => ⟨?_, by omega, by omega⟩⟩
        · match j, hj with
          | 0, _ => exact h0
          | 1, _ => omega
          | 2, _ => omega
        · rw [encode_size _ (by omega) (by omega), if_neg (by simp only; omega), if_pos (by simp only; omega)]
      · exact hbad
    · split
      · rename_i h
        obtain ⟨ha, ⟨hn1, hb⟩, ⟨hn2, hb2⟩, hn3, hb3⟩ := h
        rw [bytesOf_get g n 1 hn1] at hb b1 ⊢
        rw [bytesOf_get g n 2 hn2] at hb2 b2 ⊢
        rw [bytesOf_get g n 3 hn3] at hb3 b3 ⊢
        split
        · rename_i hc
          refine ⟨by omega, by omega, noEnd_high (fun j hj => ?_), by simp only; omega, by simp only; omega, fun _ => ⟨?_, by omega, by omega⟩⟩
          · match j, hj with
            | 0, _ => exact h0
            | 1, _ => omega
            | 2, _ => omega
            | 3, _ => omega
          · rw [encode_size _ (by omega) (by omega), if_neg (by simp only; omega), if_neg (by simp only; omega)]
        · exact hbad
      · exact hbad

/-- unicode/utf8.DecodeRune at a byte beyond ASCII. -/
theorem dec_any (g : Nat → UInt8) (n b off c : Nat) (w : World) (hn : 0 < n) (h0 : 128 ≤ (g 0).toNat) (hE : Env w) (hc : BA w b off g n) :
    Calls Tryd.prog 17 #[.slice (some ⟨b, off, none⟩) n c] w fun e w' => ∃ r k : Nat, e = .returned (.tuple #[.int .i32 r, .int .i64 k]) ∧ Dec g n r k ∧ Below w.heap.size w w' := by
  have hT : Lib.Utf8Tabs (Tryd.lays32_ren.g 2) (Tryd.lays32_ren.g 3) w := hE.2
  have h := Any7.utf8_DecodeRune Tryd.lays32 (bytesOf g n) b off c w hT (fun j hj => by
    rw [bytesOf_size] at hj
    rw [bytesOf_get g n j hj]
    exact hc j hj)
  rw [bytesOf_size] at h
  refine Calls.mono h ?_
  rintro e w' ⟨he, hb⟩
  exact ⟨_, _, he, dec_plain g n hn h0, hb⟩
end Go.Proofs.Qxb6000122aDoor
