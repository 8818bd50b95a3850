import Derived.Lib.Split
import Derived.Lib.ParseIntB
import Derived.Lib.IndexBytes
namespace Go.Proofs.Qxb6605564aDoor

/-! THE PLAIN LAYER: the decimal digits of a number. -/
def dFf : Nat → Nat → List UInt8
  | 0, _ => []
  | f + 1, n => if n = 0 then [] else dFf f (n / 10) ++ [UInt8.ofNat (48 + n % 10)]
theorem dFf_fuel : ∀ f n, n < 10 ^ f → dFf f n = dFf (f + 1) n
  | 0, n, h => by
    have : n = 0 := by simpa using h
    subst this; rfl
  | f + 1, n, h => by
    rw [dFf, dFf]
    split
    · rfl
    · rw [dFf_fuel f (n / 10) (by rw [Nat.pow_succ] at h; omega)]
/-- The digits of n, none of 0. -/
def dF (n : Nat) : List UInt8 := dFf 20 n
def two64 : Nat := 18446744073709551616
theorem dF_zero : dF 0 = [] := rfl
theorem dF_step (n : Nat) (h0 : n ≠ 0) (h : n < two64) : dF n = dF (n / 10) ++ [UInt8.ofNat (48 + n % 10)] := by
  unfold dF
  rw [dFf, if_neg h0, ← dFf_fuel 19 (n / 10) (by unfold two64 at h; omega)]
theorem dF_len : ∀ f n, (dFf f n).length ≤ f
  | 0, _ => by simp [dFf]
  | f + 1, n => by
    rw [dFf]
    split
    · simp
    · have := dF_len f (n / 10)
      simp; omega
theorem dF_pos (n : Nat) (h0 : n ≠ 0) (h : n < two64) : 1 ≤ (dF n).length := by rw [dF_step n h0 h]; simp
theorem digit_toNat (n : Nat) : (UInt8.ofNat (48 + n % 10)).toNat = 48 + n % 10 := by
  rw [UInt8.toNat_ofNat']; omega
theorem dF_digits : ∀ f n, ∀ x ∈ dFf f n, 48 ≤ x.toNat ∧ x.toNat ≤ 57
  | 0, _, x, h => by simp [dFf] at h
  | f + 1, n, x, h => by
    rw [dFf] at h
    split at h
    · simp at h
    · rcases List.mem_append.1 h with h | h
      · exact dF_digits f _ x h
      · rw [List.mem_singleton.1 h, digit_toNat]; omega
theorem dF_head : ∀ f n, n < 10 ^ f → n ≠ 0 → ∃ c r, dFf f n = c :: r ∧ c ≠ 48
  | 0, n, h, h0 => by
    have : n = 0 := by simpa using h
    exact absurd this h0
  | f + 1, n, h, h0 => by
    rw [dFf, if_neg h0]
    by_cases h1 : n / 10 = 0
    · refine ⟨UInt8.ofNat (48 + n % 10), [], ?_, ?_⟩
      · have e : dFf f (n / 10) = [] := by
          rw [h1]
          cases f with
          | zero => rfl
          | succ f => rw [dFf, if_pos rfl]
        rw [e]; rfl
      · intro e
        have := congrArg UInt8.toNat e
        rw [digit_toNat] at this
        have h48 : (48 : UInt8).toNat = 48 := rfl
        omega
    · obtain ⟨c, r, hc, hne⟩ := dF_head f (n / 10) (by rw [Nat.pow_succ] at h; omega) h1
      exact ⟨c, r ++ [UInt8.ofNat (48 + n % 10)], by rw [hc]; rfl, hne⟩

/-- The text of n: what zzUtoa hands back. -/
def utoa (n : Nat) : List UInt8 := if n = 0 then [48] else dF n
theorem utoa_len (n : Nat) (h : n < two64) : 1 ≤ (utoa n).length ∧ (utoa n).length ≤ 20 := by
  unfold utoa
  split
  · simp
  · exact ⟨dF_pos n ‹_› h, dF_len 20 n⟩
theorem utoa_digits (n : Nat) : ∀ x ∈ utoa n, 48 ≤ x.toNat ∧ x.toNat ≤ 57 := by
  intro x hx
  unfold utoa at hx
  split at hx
  · simp at hx; subst hx; decide
  · exact dF_digits 20 n x hx
theorem utoa_lead (n : Nat) (h : n < two64) (hl : 1 < (utoa n).length) : ∃ c r, utoa n = c :: r ∧ c ≠ 48 := by
  unfold utoa at hl ⊢
  split
  · rename_i h0; rw [if_pos h0] at hl; simp at hl
  · exact dF_head 20 n (by unfold two64 at h; omega) ‹_›

open Go.Lib
theorem parse_append (M : Nat) : ∀ (l r : List UInt8) (acc v : Nat), parseUintM M acc l = .ok v → parseUintM M acc (l ++ r) = parseUintM M v r
  | [], r, acc, v, h => by
    rw [parseUintM] at h
    cases h
    rfl
  | c :: l, r, acc, v, h => by
    rw [List.cons_append, parseUintM]
    rw [parseUintM] at h
    split
    · rw [if_pos ‹_›] at h
      split
      · rw [if_pos ‹_›] at h; cases h
      · rw [if_neg ‹_›] at h
        split
        · rw [if_pos ‹_›] at h; cases h
        · rw [if_neg ‹_›] at h
          exact parse_append M l r _ v h
    · rw [if_neg ‹_›] at h; cases h
theorem parse_dF : ∀ f n, n < two64 → n < 10 ^ f → parseUintM (2 ^ 64 - 1) 0 (dFf f n) = .ok n
  | 0, n, _, h => by
    have : n = 0 := by simpa using h
    subst this; rfl
  | f + 1, n, hn, h => by
    rw [dFf]
    by_cases h0 : n = 0
    · rw [if_pos h0, h0]; rfl
    · rw [if_neg h0]
      have ih := parse_dF f (n / 10) (by omega) (by rw [Nat.pow_succ] at h; omega)
      rw [parse_append _ _ _ _ _ ih, parseUintM, digit_toNat, if_pos ⟨by omega, by omega⟩]
      unfold two64 at hn
      rw [if_neg (by omega), if_neg (by omega), parseUintM]
      congr 1
      omega
theorem parse_utoa (n : Nat) (h : n < two64) : parseUintB 64 (utoa n) = .ok n := by
  have hl := (utoa_len n h).1
  unfold parseUintB
  rw [if_neg (fun e => by rw [e] at hl; simp at hl)]
  unfold utoa
  split
  · rename_i h0; subst h0; rfl
  · exact parse_dF 20 n h (by unfold two64 at h; omega)

/-! The split at the dots. -/
theorem indexB_dot (A R : List UInt8) (hA : ∀ x ∈ A, x ≠ 46) : index (A ++ 46 :: R) [46] = A.length := by
  refine index_first (by simp) ?_ ?_
  · unfold occAt
    rw [List.drop_left]
    rfl
  · intro j hj
    unfold occAt
    rw [List.drop_append_of_le_length (by omega), List.drop_eq_getElem_cons hj]
    have h1 : (46 == A[j]) = false := beq_eq_false_iff_ne.2 (fun e => hA _ (List.getElem_mem hj) e.symm)
    rw [List.cons_append, List.isPrefixOf, h1]
    rfl
theorem index_nodot (A : List UInt8) (hA : ∀ x ∈ A, x ≠ 46) : index A [46] = -1 := by
  refine index_none fun j hj => ?_
  unfold occAt
  by_cases h : j < A.length
  · rw [List.drop_eq_getElem_cons h]
    have h1 : (46 == A[j]) = false := beq_eq_false_iff_ne.2 (fun e => hA _ (List.getElem_mem h) e.symm)
    rw [List.isPrefixOf, h1]
    rfl
  · rw [List.drop_of_length_le (by omega)]
    rfl

def dot : ByteArray := ⟨#[46]⟩
def str (l : List UInt8) : ByteArray := ⟨l.toArray⟩
theorem str_size (l : List UInt8) : (str l).size = l.length := by simp [str, ByteArray.size]
theorem str_data (l : List UInt8) : (str l).data.toList = l := by simp [str]
theorem str_extract_to (A R : List UInt8) : (str (A ++ R)).extract 0 A.length = str A := by
  apply ByteArray.ext
  apply Array.toList_inj.1
  rw [extract_data, str_data, str_data]
  simp
theorem str_extract_from (A R : List UInt8) (k : Nat) (hk : k = A.length) : (str (A ++ R)).extract k (str (A ++ R)).size = str R := by
  apply ByteArray.ext
  apply Array.toList_inj.1
  rw [extract_data, str_data, str_data, str_size, hk]
  simp
theorem split_dot (A R : List UInt8) (k : Nat) (hA : ∀ x ∈ A, x ≠ 46) : splitB dot 0 (k + 1) (str (A ++ 46 :: R)) = str A :: splitB dot 0 k (str R) ∧ countB (str (A ++ 46 :: R)) dot = 1 + countB (str R) dot := by
  have hi : indexB (str (A ++ 46 :: R)) dot = A.length := by
    show index (str (A ++ 46 :: R)).data.toList [46] = _
    rw [str_data]
    exact indexB_dot A R hA
  have he : (str (A ++ 46 :: R)).extract (A.length + dot.size) (str (A ++ 46 :: R)).size = str R := by
    have e : A ++ 46 :: R = (A ++ [46]) ++ R := by simp
    rw [e]
    exact str_extract_from (A ++ [46]) R _ (by simp [dot, ByteArray.size])
  rw [splitB_hit dot 0 k _ _ hi, countB_hit _ dot _ (by decide) hi, he, Nat.add_zero, str_extract_to]
  exact ⟨rfl, rfl⟩
theorem split_nodot (A : List UInt8) (k : Nat) (hA : ∀ x ∈ A, x ≠ 46) : splitB dot 0 k (str A) = [str A] ∧ countB (str A) dot = 0 := by
  have hi : indexB (str A) dot = -1 := by
    show index (str A).data.toList [46] = _
    rw [str_data]
    exact index_nodot A hA
  exact ⟨splitB_miss dot 0 k _ hi, countB_miss _ _ hi⟩
theorem no_dot {l : List UInt8} (h : ∀ x ∈ l, 48 ≤ x.toNat ∧ x.toNat ≤ 57) : ∀ x ∈ l, x ≠ 46 := fun x hx e => by
  have := h x hx
  subst e
  exact absurd this.1 (by decide)
/-- The version's text. -/
def ver (a b c : Nat) : List UInt8 := utoa a ++ 46 :: (utoa b ++ 46 :: utoa c)
theorem ver_split (a b c : Nat) : countB (str (ver a b c)) dot = 2 ∧ splitB dot 0 2 (str (ver a b c)) = [str (utoa a), str (utoa b), str (utoa c)] := by
  have h1 := split_dot (utoa a) (utoa b ++ 46 :: utoa c) 1 (no_dot (utoa_digits a))
  have h2 := split_dot (utoa b) (utoa c) 0 (no_dot (utoa_digits b))
  have h3 := split_nodot (utoa c) 0 (no_dot (utoa_digits c))
  unfold ver
  rw [h1.1, h1.2, h2.1, h2.2, h3.1, h3.2]
  exact ⟨rfl, rfl⟩
end Go.Proofs.Qxb6605564aDoor
