import Derived.Test.Qxb6606095aDoorText
namespace Go.Proofs.Qxb6606095aDoor
open Go.RowKit
theorem trimR_any (D : List UInt8) (w : World) (hD : D.length ≤ 3000000) :
    Calls Tryd.prog 38 #[.string (str D), .string ⟨#[48]⟩] w fun e w' => e = .returned (.string (str (Lib.trimRightB D 48))) ∧ w' = w := by
  have h := Any.strings_TrimRight_one Tryd.lays162 (str D) 48 (by decide) w (by rw [str_size]; omega)
  rw [str_data] at h
  exact h
theorem trimL_any (D : List UInt8) (w : World) :
    Calls Tryd.prog 24 #[.string (str D), .string ⟨#[48]⟩] w fun e w' => e = .returned (.string (str (Lib.trimLeftB D 48))) ∧ w' = w := by
  have h := Any.strings_TrimLeft_one Tryd.lays161 (str D) 48 (by decide) w
  rw [str_data] at h
  exact h

theorem normal_canon (n : Bool) (D c : List UInt8) (e : Int) (w : World) (hD : D.length ≤ 3000000) (hc : Lib.trimRightB D 48 = c) (h0 : 0 < c.length) (hcD : c.length ≤ D.length) (he1 : -2000000000 ≤ e) (he2 : e ≤ 2000000000) :
    Calls Tryd.prog 26 #[.bool n, .string (str D), .int .i64 e] w fun en w' => en = .returned (.agg #[.bool n, .string (str c), .int .i64 (e + D.length - c.length)]) ∧ Below w.heap.size w w' := by
  have ct := hide (fun w => trimR_any D w hD)
  rw [hc] at ct
  rw [← str_size] at hD h0 hcD
  rw [← str_size] at hcD
  have e1 := str_size D
  have e2 := str_size c
  rw [← e1, ← e2]
  generalize str D = Ds at *
  generalize str c = C at *
  clear e1 e2 hc
  obtain ⟨hE1, hE2⟩ := toList_some C h0
  have z1 : (Ds.size : Int) ≤ 3000000 := by omega
  have z2 : (C.size : Int) ≤ Ds.size := by omega
  have z3 : (0 : Int) ≤ C.size := by omega
  have hB := hide fun v => (Below.refl w.heap.size w).alloc (Nat.le_refl _) v
  go_enter Tryd.func26, Tryd.ntmps26
  go_wp2_with fail
  refine Calls.mono (ct.out _) ?_
  rintro en w' ⟨rfl, rfl⟩
  go_wp2
  refine bodyPost_ret (v := .agg #[.bool n, .string C, .int .i64 (e + Ds.size - C.size)]) (by simp [results, Tryd.results26, go_sem]) rfl ⟨rfl, ?_⟩
  exact hB.out _

theorem normal_zero (n : Bool) (e : Int) (w : World) :
    Calls Tryd.prog 26 #[.bool n, .string (str []), .int .i64 e] w fun en w' => en = .returned (.agg #[.bool false, .string (str []), .int .i64 0]) ∧ Below w.heap.size w w' := by
  have ct := hide (fun w => trimR_any [] w (by simp))
  have ht : Lib.trimRightB [] 48 = [] := rfl
  rw [ht] at ct
  have hs : str [] = ⟨#[]⟩ := rfl
  rw [hs] at ct ⊢
  have hB := hide fun v => (Below.refl w.heap.size w).alloc (Nat.le_refl _) v
  go_enter Tryd.func26, Tryd.ntmps26
  go_wp2_with fail
  refine Calls.mono (ct.out _) ?_
  rintro en w' ⟨rfl, rfl⟩
  go_wp2
  refine bodyPost_ret (v := .agg #[.bool false, .string ⟨#[]⟩, .int .i64 0]) (by simp [results, Tryd.results26, go_sem]) rfl ⟨rfl, ?_⟩
  exact hB.out _

theorem cut_hit_any (c : UInt8) (A R : List UInt8) (w : World) (hl : (A ++ c :: R).length ≤ 3000000) (hA : ∀ x ∈ A, x ≠ c) (hE : Env w) :
    Calls Tryd.prog 22 #[.string (str (A ++ c :: R)), .string (str [c])] w fun e w' => e = .returned (.tuple #[.string (str A), .string (str R), .bool true]) ∧ Below w.heap.size w w' := by
  obtain ⟨m, hm⟩ := hE.max
  have h := Any.strings_Cut Tryd.lays145 (str (A ++ c :: R)) (str [c]) m w (by rw [str_size]; omega) hm
  rw [str_data, str_data, cut_hit c A R hA] at h
  refine Calls.mono h ?_
  rintro e w' ⟨he, k, rfl⟩
  exact ⟨he, below_drewN (Below.refl _ _) k⟩
theorem cut_miss_any (c : UInt8) (A : List UInt8) (w : World) (hl : A.length ≤ 3000000) (hA : ∀ x ∈ A, x ≠ c) (hE : Env w) :
    Calls Tryd.prog 22 #[.string (str A), .string (str [c])] w fun e w' => e = .returned (.tuple #[.string (str A), .string (str []), .bool false]) ∧ Below w.heap.size w w' := by
  obtain ⟨m, hm⟩ := hE.max
  have h := Any.strings_Cut Tryd.lays145 (str A) (str [c]) m w (by rw [str_size]; omega) hm
  rw [str_data, str_data, cut_miss c A hA] at h
  refine Calls.mono h ?_
  rintro e w' ⟨he, k, rfl⟩
  exact ⟨he, below_drewN (Below.refl _ _) k⟩
theorem allDig_any (l : List UInt8) (w : World) (hl : l.length ≤ 3000000) (h0 : 0 < l.length) (hd : Dig l) :
    Calls Tryd.prog 23 #[.string (str l)] w fun e w' => e = .returned (.bool true) ∧ w' = w := by
  refine allDigits_any (str l) w (by rw [str_size]; omega) (by rw [str_size]; exact h0) fun j hj => ?_
  rw [← bytes_getElem (str l) j hj]
  have hd' : Dig (str l).data.toList := by rw [str_data]; exact hd
  exact hd' _ (List.getElem_mem _)
theorem prefix_any (n : Bool) (a : UInt8) (R : List UInt8) (w : World) (ha : a ≠ 45) :
    Calls Tryd.prog 21 #[.string (str (sg n ++ a :: R)), .string ⟨#[45]⟩] w fun e w' => e = .returned (.bool n) ∧ w' = w := by
  have h := Any.strings_HasPrefix Tryd.lays99 (str (sg n ++ a :: R)) ⟨#[45]⟩ w
  rw [str_data] at h
  have e : Lib.hasPrefix (sg n ++ a :: R) [45] = n := by
    have hb : (45 == a) = false := beq_eq_false_iff_ne.2 (fun e => ha e.symm)
    cases n <;> simp [Lib.hasPrefix, sg, List.isPrefixOf, hb]
  rw [show (ByteArray.mk #[45]).data.toList = [45] from rfl, e] at h
  exact h
theorem atoi_any (X : List UInt8) (x : Int) (w : World) (hl : X.length ≤ 3000000) (h : Lib.atoiAll X = .ok x) :
    Calls Tryd.prog 25 #[.string (str X)] w fun e w' => e = .returned (.tuple #[.int .i64 x, .nilIface]) ∧ Below w.heap.size w w' := by
  refine Calls.mono (Any.strconv_Atoi_ok Tryd.laysC172 (str X) (by rw [str_size]; omega) x (by rw [str_data]; exact h) w) ?_
  rintro e w' ⟨he, hw⟩
  refine ⟨he, ?_⟩
  rcases hw with rfl | ⟨t, rfl⟩
  · exact Below.refl _ _
  · exact Lib.below_freeze (((Below.refl _ _).drew).alloc (Nat.le_refl _) _) (Nat.le_refl _) _
end Go.Proofs.Qxb6606095aDoor
