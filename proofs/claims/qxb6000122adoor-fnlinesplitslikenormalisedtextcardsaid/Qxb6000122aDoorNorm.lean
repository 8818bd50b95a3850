import Derived.Test.Qxb6000122aDoorZZ
namespace Go.Proofs.Qxb6000122aDoor
open Go.RowKit

/-! THE PLAIN LAYER: the text from place p on with every CRLF and CR made LF. -/
def nzF (g : Nat → UInt8) (n : Nat) : Nat → Nat → List UInt8
  | 0, _ => []
  | f + 1, p => if p < n then (if g p = 13 then 10 else g p) :: nzF g n f (p + elen g n p) else []
theorem elen_pos (g : Nat → UInt8) (n i : Nat) : 1 ≤ elen g n i := by unfold elen; split <;> omega
theorem elen_le (g : Nat → UInt8) (n i : Nat) (h : i < n) : i + elen g n i ≤ n := by
  unfold elen
  split
  · rename_i hh; omega
  · omega
theorem elen_plain {g : Nat → UInt8} {n i : Nat} (h : g i ≠ 13) : elen g n i = 1 := by unfold elen; rw [if_neg (fun hh => h hh.1)]
theorem nzF_fuel (g : Nat → UInt8) (n : Nat) : ∀ f f' p, n - p ≤ f → n - p ≤ f' → nzF g n f p = nzF g n f' p
  | 0, 0, _, _, _ => rfl
  | 0, f' + 1, p, h, _ => by rw [nzF, nzF, if_neg (by omega)]
  | f + 1, 0, p, _, h => by rw [nzF, nzF, if_neg (by omega)]
  | f + 1, f' + 1, p, h, h' => by
    rw [nzF, nzF]
    split
    · have := elen_pos g n p
      rw [nzF_fuel g n f f' (p + elen g n p) (by omega) (by omega)]
    · rfl
def nz (g : Nat → UInt8) (n p : Nat) : List UInt8 := nzF g n (n - p) p
theorem nz_end (g : Nat → UInt8) (n p : Nat) (h : n ≤ p) : nz g n p = [] := by unfold nz; rw [show n - p = 0 by omega]; rfl
theorem nz_step (g : Nat → UInt8) (n p : Nat) (h : p < n) : nz g n p = (if g p = 13 then 10 else g p) :: nz g n (p + elen g n p) := by
  unfold nz
  obtain ⟨f, hf⟩ : ∃ f, n - p = f + 1 := ⟨n - p - 1, by omega⟩
  have := elen_pos g n p
  rw [hf, nzF, if_pos h, nzF_fuel g n f (n - (p + elen g n p)) (p + elen g n p) (by omega) (by omega)]
theorem nz_length (g : Nat → UInt8) (n : Nat) : ∀ f p, n - p ≤ f → (nz g n p).length ≤ n - p
  | 0, p, h => by rw [nz_end g n p (by omega)]; simp
  | f + 1, p, h => by
    by_cases hp : p < n
    · have h1 := elen_pos g n p
      have := nz_length g n f (p + elen g n p) (by omega)
      rw [nz_step g n p hp, List.length_cons]
      omega
    · rw [nz_end g n p (by omega)]; simp

/-- The k bytes from p on. -/
def seg (g : Nat → UInt8) (p k : Nat) : List UInt8 := (List.range k).map fun j => g (p + j)
theorem seg_length (g : Nat → UInt8) (p k : Nat) : (seg g p k).length = k := by simp [seg]
theorem seg_get (g : Nat → UInt8) (p k j : Nat) (h : j < k) : (seg g p k)[j]? = some (g (p + j)) := by simp [seg, h]
theorem seg_succ (g : Nat → UInt8) (p k : Nat) : seg g p (k + 1) = g p :: seg g (p + 1) k := by
  unfold seg
  rw [List.range_succ_eq_map, List.map_cons, List.map_map]
  congr 1
  apply List.map_congr_left
  intro j _
  show g (p + (j + 1)) = g (p + 1 + j)
  rw [show p + (j + 1) = p + 1 + j by omega]
theorem notEnd {x : UInt8} (h : isEnd x = false) : x ≠ 13 ∧ x ≠ 10 := by
  constructor <;> (intro e; subst e; exact absurd h (by decide))

/-- Bytes that are no line ends stand as they are. -/
theorem nz_seg (g : Nat → UInt8) (n : Nat) : ∀ k p, p + k ≤ n → (∀ j, p ≤ j → j < p + k → isEnd (g j) = false) → nz g n p = seg g p k ++ nz g n (p + k)
  | 0, p, _, _ => by simp [seg]
  | k + 1, p, hk, h => by
    have hne := notEnd (h p (Nat.le_refl _) (by omega))
    rw [nz_step g n p (by omega), if_neg hne.1, elen_plain hne.1, nz_seg g n k (p + 1) (by omega) (fun j h1 h2 => h j (by omega) (by omega)), seg_succ, List.cons_append, show p + 1 + k = p + (k + 1) by omega]
theorem nz_none (g : Nat → UInt8) (n p : Nat) (hp : p ≤ n) (h : ∀ j, p ≤ j → j < n → isEnd (g j) = false) : nz g n p = seg g p (n - p) := by
  have := nz_seg g n (n - p) p (by omega) (fun j h1 h2 => h j h1 (by omega))
  rw [this, show p + (n - p) = n by omega, nz_end g n n (Nat.le_refl _), List.append_nil]
theorem nz_first (g : Nat → UInt8) (n p i : Nat) (h : Fst g n p i) : nz g n p = seg g p (i - p) ++ 10 :: nz g n (i + elen g n i) := by
  have h1 := h.ge
  have h2 := h.lt
  rw [nz_seg g n (i - p) p (by omega) (fun j h3 h4 => h.no j h3 (by omega)), show p + (i - p) = i by omega, nz_step g n i h2]
  congr 2
  rcases isEnd_cases h.yes with e | e
  · rw [if_pos e]
  · rw [e]; rfl

theorem first_from (g : Nat → UInt8) (p : Nat) : ∀ n, (∀ j, p ≤ j → j < n → isEnd (g j) = false) ∨ ∃ i, Fst g n p i
  | 0 => .inl (fun j _ h => absurd h (Nat.not_lt_zero _))
  | n + 1 => by
    rcases first_from g p n with h | ⟨i, h⟩
    · by_cases hp : p ≤ n
      · cases hE : isEnd (g n)
        · refine .inl (fun j h1 h2 => ?_)
          by_cases e : j = n
          · subst e; exact hE
          · exact h j h1 (by omega)
        · exact .inr ⟨n, hp, Nat.lt_succ_self _, fun j h1 hj => h j h1 hj, hE⟩
      · exact .inl (fun j h1 h2 => absurd h2 (by omega))
    · exact .inr ⟨i, h.ge, Nat.lt_succ_of_lt h.lt, h.no, h.yes⟩

/-- What stands at place a + j of N, whose end from a on is 'seg ++ rest'. -/
theorem at_seg {N R : List UInt8} {g : Nat → UInt8} {a p k j : Nat} (h : N.drop a = seg g p k ++ R) (hj : j < k) : N.getD (a + j) 0 = g (p + j) := by
  have h1 : (N.drop a)[j]? = some (g (p + j)) := by
    rw [h, List.getElem?_append_left (by rw [seg_length]; exact hj), seg_get g p k j hj]
  rw [List.getElem?_drop] at h1
  simp [List.getD, h1]
theorem at_end {N R : List UInt8} {g : Nat → UInt8} {a p k : Nat} {x : UInt8} (h : N.drop a = seg g p k ++ x :: R) : N.getD (a + k) 0 = x := by
  have h1 : (N.drop a)[k]? = some x := by
    rw [h, List.getElem?_append_right (by rw [seg_length]; exact Nat.le_refl _), seg_length, Nat.sub_self]
    rfl
  rw [List.getElem?_drop] at h1
  simp [List.getD, h1]
theorem drop_next {N R : List UInt8} {g : Nat → UInt8} {a p k : Nat} {x : UInt8} (h : N.drop a = seg g p k ++ x :: R) : N.drop (a + k + 1) = R := by
  have e : N.drop (a + k + 1) = (N.drop a).drop (k + 1) := by rw [List.drop_drop]; congr 1
  rw [e, h, List.drop_append, seg_length, show k + 1 - k = 1 by omega, List.drop_of_length_le (by rw [seg_length]; omega)]
  rfl
theorem len_drop {N S : List UInt8} {a : Nat} (h : N.drop a = S) (ha : a ≤ N.length) : N.length = a + S.length := by
  have := congrArg List.length h
  rw [List.length_drop] at this
  omega
end Go.Proofs.Qxb6000122aDoor
