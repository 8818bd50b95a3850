import Derived.Lib.IndexMore
import Derived.Lib.CutLaws
import Derived.Lib.TrimByte
import Derived.Lib.ItoaLen
import Derived.Lib.ItoaMem
import Derived.Lib.AtoiAllCases
import Derived.Lib.Repeat
namespace Go.Proofs.Qxb6606095aDoor
open Go.Lib

/-! THE PLAIN LAYER. -/
def str (l : List UInt8) : ByteArray := ⟨l.toArray⟩
theorem str_size (l : List UInt8) : (str l).size = l.length := by simp [str, ByteArray.size]
theorem str_data (l : List UInt8) : (str l).data.toList = l := by simp [str]
theorem str_append (x y : List UInt8) : str x ++ str y = str (x ++ y) := by
  apply ByteArray.ext
  apply Array.toList_inj.1
  rw [ByteArray.data_append]
  simp [str]
theorem str_eq (s : ByteArray) : s = str s.data.toList := by simp [str]

def Dig (l : List UInt8) : Prop := ∀ x ∈ l, 48 ≤ x.toNat ∧ x.toNat ≤ 57
theorem Dig.append {a b : List UInt8} (ha : Dig a) (hb : Dig b) : Dig (a ++ b) := fun x hx => (List.mem_append.1 hx).elim (ha x) (hb x)
theorem Dig.cons {c : UInt8} {l : List UInt8} (hc : 48 ≤ c.toNat ∧ c.toNat ≤ 57) (h : Dig l) : Dig (c :: l) := fun x hx => by
  rcases List.mem_cons.1 hx with e | e
  · rw [e]; exact hc
  · exact h x e
theorem Dig.take {l : List UInt8} (h : Dig l) (k : Nat) : Dig (l.take k) := fun x hx => h x (List.mem_of_mem_take hx)
theorem Dig.drop {l : List UInt8} (h : Dig l) (k : Nat) : Dig (l.drop k) := fun x hx => h x (List.mem_of_mem_drop hx)
theorem Dig.no {l : List UInt8} (h : Dig l) (c : UInt8) (hc : c.toNat < 48 ∨ 57 < c.toNat) : ∀ x ∈ l, x ≠ c := fun x hx e => by
  have := h x hx
  rw [e] at this
  omega
/-- k zeros. -/
def zs (k : Nat) : List UInt8 := List.replicate k 48
theorem zs_dig (k : Nat) : Dig (zs k) := fun x hx => by
  rw [List.eq_of_mem_replicate hx]
  decide
theorem zs_len (k : Nat) : (zs k).length = k := by simp [zs]
theorem repeat_zs : ∀ k, repeatL [48] k = zs k
  | 0 => rfl
  | k + 1 => by
    rw [repeatL, repeat_zs k]
    rfl

/-! Cut at one byte. -/
theorem index_hit (c : UInt8) (A R : List UInt8) (hA : ∀ x ∈ A, x ≠ c) : index (A ++ c :: R) [c] = A.length := by
  refine index_first (by simp) ?_ ?_
  · unfold occAt
    rw [List.drop_left, List.isPrefixOf]
    simp
  · intro j hj
    unfold occAt
    rw [List.drop_append_of_le_length (by omega), List.drop_eq_getElem_cons hj]
    have h1 : (c == A[j]) = false := beq_eq_false_iff_ne.2 (fun e => hA _ (List.getElem_mem hj) e.symm)
    rw [List.cons_append, List.isPrefixOf, h1]
    rfl
theorem index_miss (c : UInt8) (A : List UInt8) (hA : ∀ x ∈ A, x ≠ c) : index A [c] = -1 := by
  refine index_none fun j hj => ?_
  unfold occAt
  by_cases h : j < A.length
  · rw [List.drop_eq_getElem_cons h]
    have h1 : (c == A[j]) = false := beq_eq_false_iff_ne.2 (fun e => hA _ (List.getElem_mem h) e.symm)
    rw [List.isPrefixOf, h1]
    rfl
  · rw [List.drop_of_length_le (by omega)]
    rfl
theorem cut_hit (c : UInt8) (A R : List UInt8) (hA : ∀ x ∈ A, x ≠ c) : cut (A ++ c :: R) [c] = (A, R, true) := by
  unfold cut
  rw [index_hit c A R hA, if_pos (by omega)]
  have e : A ++ c :: R = (A ++ [c]) ++ R := by simp
  rw [Int.toNat_natCast, List.take_left]
  congr 2
  rw [e]
  have e2 : A.length + [c].length = (A ++ [c]).length := by simp
  rw [e2, List.drop_left]
theorem cut_miss (c : UInt8) (A : List UInt8) (hA : ∀ x ∈ A, x ≠ c) : cut A [c] = (A, [], false) := by
  unfold cut
  rw [index_miss c A hA, if_neg (by omega)]

/-! The trims. -/
theorem trimL_head (a : UInt8) (r : List UInt8) (h : a ≠ 48) : trimLeftB (a :: r) 48 = a :: r := by
  unfold trimLeftB
  rw [List.dropWhile_cons_of_neg (by simpa using h)]
theorem trimL_zs : ∀ (k : Nat) (l : List UInt8), trimLeftB (zs k ++ l) 48 = trimLeftB l 48
  | 0, l => rfl
  | k + 1, l => by
    have := trimL_zs k l
    unfold trimLeftB at this ⊢
    have e : zs (k + 1) ++ l = 48 :: (zs k ++ l) := rfl
    rw [e, List.dropWhile_cons_of_pos (by simp), this]
theorem trimR_zs (k : Nat) (r : List UInt8) (z : UInt8) (h : z ≠ 48) : trimRightB (r ++ [z] ++ zs k) 48 = r ++ [z] := by
  have h1 := trimL_zs k (z :: r.reverse)
  rw [trimL_head z _ h] at h1
  unfold trimRightB
  have e : (r ++ [z] ++ zs k).reverse = zs k ++ (z :: r.reverse) := by
    simp [zs]
  unfold trimLeftB at h1
  rw [e, h1]
  simp
theorem trimL_len (l : List UInt8) : (trimLeftB l 48).length ≤ l.length := by
  unfold trimLeftB
  exact (List.dropWhile_sublist _).length_le

/-! The exponent's text. -/
theorem dec_small {u : Nat} (h : u < 10) : decDigits u = [UInt8.ofNat (48 + u)] := by rw [decDigits, dif_pos h]
theorem dec_big {u : Nat} (h : ¬ u < 10) : decDigits u = decDigits (u / 10) ++ [UInt8.ofNat (48 + u % 10)] := by rw [decDigits, dif_neg h]
theorem digit_toNat (n : Nat) (h : n < 10) : (UInt8.ofNat (48 + n)).toNat = 48 + n := by rw [UInt8.toNat_ofNat']; omega
theorem dec_dig : ∀ f u, u < 10 ^ (f + 1) → Dig (decDigits u)
  | 0, u, h => by
    have h' : u < 10 := by simpa using h
    rw [dec_small h']
    exact Dig.cons (by rw [digit_toNat u h']; omega) (fun x hx => by simp at hx)
  | f + 1, u, h => by
    by_cases hu : u < 10
    · rw [dec_small hu]
      exact Dig.cons (by rw [digit_toNat u hu]; omega) (fun x hx => by simp at hx)
    · rw [dec_big hu]
      exact (dec_dig f (u / 10) (by rw [Nat.pow_succ] at h; omega)).append (Dig.cons (by rw [digit_toNat (u % 10) (by omega)]; omega) (fun x hx => by simp at hx))
theorem dec_len : ∀ f u, u < 10 ^ (f + 1) → 1 ≤ (decDigits u).length ∧ (decDigits u).length ≤ f + 1
  | 0, u, h => by
    have h' : u < 10 := by simpa using h
    rw [dec_small h']; simp
  | f + 1, u, h => by
    by_cases hu : u < 10
    · rw [dec_small hu]; simp
    · rw [dec_big hu]
      have := dec_len f (u / 10) (by rw [Nat.pow_succ] at h; omega)
      simp; omega
theorem parse10_append : ∀ (l r : List UInt8) (acc v : Nat), parseUint10 acc l = .ok v → parseUint10 acc (l ++ r) = parseUint10 v r
  | [], r, acc, v, h => by
    rw [parseUint10] at h
    cases h
    rfl
  | c :: l, r, acc, v, h => by
    rw [List.cons_append, parseUint10]
    rw [parseUint10] at h
    split
    · rw [if_pos ‹_›] at h
      split
      · rw [if_pos ‹_›] at h; cases h
      · rw [if_neg ‹_›] at h
        split
        · rw [if_pos ‹_›] at h; cases h
        · rw [if_neg ‹_›] at h
          exact parse10_append l r _ v h
    · rw [if_neg ‹_›] at h; cases h
theorem parse10_one (acc d : Nat) (hd : d < 10) (ha : acc < 1000000000) : parseUint10 acc [UInt8.ofNat (48 + d)] = .ok (acc * 10 + d) := by
  rw [parseUint10, digit_toNat d hd, if_pos ⟨by omega, by omega⟩, if_neg (by omega), if_neg (by omega), parseUint10]
  congr 1
  omega
theorem parse10_dec : ∀ f u, u < 10 ^ (f + 1) → u < 1000000000 → parseUint10 0 (decDigits u) = .ok u
  | 0, u, h, _ => by
    have h' : u < 10 := by simpa using h
    rw [dec_small h', parse10_one 0 u h' (by omega)]
    congr 1
    omega
  | f + 1, u, h, hs => by
    by_cases hu : u < 10
    · rw [dec_small hu, parse10_one 0 u hu (by omega)]
      congr 1
      omega
    · rw [dec_big hu, parse10_append _ _ _ _ (parse10_dec f (u / 10) (by rw [Nat.pow_succ] at h; omega) (by omega)), parse10_one (u / 10) (u % 10) (by omega) (by omega)]
      congr 1
      omega

/-- What Parse asks of the text X behind 'e': it spells x; its digits T, at most nine. -/
structure ExpText (X : List UInt8) (x : Int) (neg : Bool) (T : List UInt8) : Prop where
  shape : X = (if neg then 45 :: T else T)
  dig : Dig T
  ne : T ≠ []
  len : T.length ≤ 9
  atoi : atoiAll X = .ok x
theorem itoa_exp (x : Int) (h1 : -999999999 ≤ x) (h2 : x ≤ 999999999) : ∃ T, ExpText (itoa x) x (decide (x < 0)) T := by
  have hne : ∀ u, u < 10 ^ 9 → decDigits u ≠ [] := fun u hu e => by
    have := (dec_len 8 u hu).1
    rw [e] at this
    simp at this
  by_cases h : x < 0
  · obtain ⟨u, rfl⟩ : ∃ u : Nat, x = -(u : Int) := ⟨x.natAbs, by omega⟩
    have hu : u < 10 ^ 9 := by omega
    refine ⟨decDigits u, ?_, dec_dig 8 u hu, hne u hu, (dec_len 8 u hu).2, ?_⟩
    · rw [itoa_neg u (by omega), decide_eq_true h, if_pos rfl]
    · rw [itoa_neg u (by omega), atoiAll_minus]
      unfold parseMag
      rw [if_neg (hne u hu), parse10_dec 8 u hu (by omega), signed, if_neg (by omega)]
  · obtain ⟨u, rfl⟩ : ∃ u : Nat, x = (u : Int) := ⟨x.toNat, by omega⟩
    have hu : u < 10 ^ 9 := by omega
    refine ⟨decDigits u, ?_, dec_dig 8 u hu, hne u hu, (dec_len 8 u hu).2, ?_⟩
    · rw [itoa_nonneg, decide_eq_false h, if_neg (by decide)]
    · rw [itoa_nonneg]
      have hd := dec_dig 8 u hu
      have hp := parse10_dec 8 u hu (by omega)
      have hn := hne u hu
      cases hl : decDigits u with
      | nil => exact absurd hl hn
      | cons c r =>
        rw [hl] at hd hp
        have hc := hd c (List.mem_cons_self ..)
        rw [atoiAll_plain c r (by omega) (by omega)]
        unfold parseMag
        rw [if_neg (by simp), hp, signless, if_neg (by omega)]

/-! The canonical coefficient; what Parse makes of the digits. -/
structure Canon (c : List UInt8) : Prop where
  dig : Dig c
  head : ∃ a r, c = a :: r ∧ a ≠ 48
  last : ∃ r z, c = r ++ [z] ∧ z ≠ 48
theorem Canon.pos {c : List UInt8} (h : Canon c) : 1 ≤ c.length := by
  obtain ⟨a, r, e, _⟩ := h.head
  rw [e]; simp
theorem Canon.trimL {c : List UInt8} (h : Canon c) (k : Nat) (R : List UInt8) : trimLeftB (zs k ++ (c ++ R)) 48 = c ++ R := by
  obtain ⟨a, r, e, ha⟩ := h.head
  rw [trimL_zs, e, List.cons_append, trimL_head a _ ha]
theorem Canon.trimR {c : List UInt8} (h : Canon c) (k : Nat) : trimRightB (c ++ zs k) 48 = c := by
  obtain ⟨r, z, e, hz⟩ := h.last
  rw [e, trimR_zs k r z hz]
/-- The sign's text. -/
def sg (neg : Bool) : List UInt8 := if neg then [45] else []
end Go.Proofs.Qxb6606095aDoor
