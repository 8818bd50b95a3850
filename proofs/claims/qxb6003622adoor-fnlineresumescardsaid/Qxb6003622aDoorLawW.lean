import Derived.Test.Qxb6003622aDoorLaw
namespace Go.Proofs.Qxb6003622aDoor
open Go.RowKit

theorem Fst.from {g : Nat → UInt8} {n q i : Nat} (h : Fst g n 0 i) (hq : q ≤ i) : Fst g n q i := ⟨hq, h.lt, fun j _ hj => h.no j (Nat.zero_le _) hj, h.yes⟩
theorem Fst.upto {g : Nat → UInt8} {n i k : Nat} (h : Fst g n 0 i) (hk : i < k) : Fst g k 0 i := ⟨Nat.zero_le _, hk, h.no, h.yes⟩
theorem Fst.noEnd {g : Nat → UInt8} {n i : Nat} (h : Fst g n 0 i) : NoEnd g i := fun j hj => h.no j (Nat.zero_le _) hj
theorem Fst.isFirst {g : Nat → UInt8} {n i : Nat} (h : Fst g n 0 i) {r : Int} (hr : IsFirst g n r) : r = i := hr.of_some h.lt h.noEnd h.yes

theorem equal_buf (g : Nat → UInt8) (n b off c b' off' c' : Nat) (w : World) (h : Buf g n b off w) (h' : Buf g n b' off' w) :
    Calls Tryd.prog 9 #[.slice (some ⟨b, off, none⟩) n c, .slice (some ⟨b', off', none⟩) n c'] w fun e w' => e = .returned (.bool true) ∧ Below w.heap.size w w' := by
  refine (zzEqual_same g n b off c b' off' c' w h.le h.ba h'.ba).mono ?_
  rintro e w' ⟨he, q, rfl⟩
  exact ⟨he, below_drewN' _ _ _⟩
theorem elen_same {g : Nat → UInt8} {n k i : Nat} (hk : k ≤ n) (h : whole g k i false = true) : elen g k i = elen g n i := by
  unfold elen
  simp only [whole, Bool.false_or, Bool.or_eq_true, decide_eq_true_eq, beq_iff_eq] at h
  rcases h with h | h
  · have h2 : i + 1 < n := by omega
    simp only [h, h2, true_and]
  · have hne : ¬ g i = 13 := by rw [h]; decide
    simp only [hne, false_and]

set_option maxHeartbeats 2000000 in
set_option maxRecDepth 100000 in
/-- THE LAW where the first line end is a lone CR at the very end, and more may come. -/
theorem law_wait (g : Nat → UInt8) (n b off c cut i : Nat) (w : World) (h : Buf g n b off w) (hcut : cut ≤ n) (hi : Fst g n 0 i) (hcr : g i = 13) (hlast : i + 1 = n) :
    Calls Tryd.prog 3 #[.slice (some ⟨b, off, none⟩) n c, .int .i64 cut, .bool false] w fun e w' => e = .returned (.bool true) ∧ Below w.heap.size w w' := by
  have hle := h.le
  have hlt := hi.lt
  have hz1 : (n : Int) ≤ 1048576 := by omega
  have hz2 : (cut : Int) ≤ (n : Int) := by omega
  have hz3 : (i : Int) < (n : Int) := by omega
  have hz4 : (n : Int) - 1 ≤ (i : Int) := by omega
  have HWn : Hid (whole g n i false = false) := by
    show whole g n i false = false
    unfold whole; rw [hcr, decide_eq_false (by omega)]; rfl
  have HWc : Hid (i < cut → whole g cut i false = false) := fun hl => by
    unfold whole; rw [hcr, decide_eq_false (by omega)]; rfl
  have HC := hide hcr
  have HI := hide hi
  clear hi
  go_enter Tryd.func3, Tryd.ntmps3
  go_wp2_with fail
  refine (zzBytes_any _ _ _ _ _ _ (by unfold maxLen; omega)).mono ?_
  rintro e w' ⟨rfl, hw⟩
  rw [hw, decide_eq_true hle]
  clear hw
  go_wp2_with fail
  refine (clone_buf g n b off c _ h).mono ?_
  rintro e w1 ⟨b1, rfl, B1, L1⟩
  go_wp2_with fail
  refine (clone_buf g n b1 0 n _ B1).mono ?_
  rintro e w2 ⟨b2, rfl, B2, L2⟩
  go_wp2_with fail
  refine (zz0W g n b2 0 i _ _ false _ B2 rfl rfl HI.out HWn.out).mono ?_
  rintro e w3 ⟨rfl, L3⟩
  have B1' := (B1.below L2).below L3
  have B2' := B2.below L3
  go_wp2_with fail
  refine (first_any g n b1 0 n _ B1').mono ?_
  rintro e w' ⟨r, rfl, hr, hw⟩
  rw [hw, HI.out.isFirst hr]
  clear hw hr
  have hci : w3.cell? ⟨b1, i, none⟩ = some (.int .u8 13) := by
    have := B1'.ba i HI.out.lt
    rw [Nat.zero_add, HC.out] at this
    exact this
  clear hcr hlast
  go_wp2_with fail
  by_cases hc : cut ≤ i
  · refine (clone_buf g cut b1 0 n _ (B1'.pre cut hcut)).mono ?_
    rintro e w4 ⟨b3, rfl, B3, L4⟩
    go_wp2_with fail
    refine (zz0N g cut b3 0 _ _ false _ B3 rfl rfl (by omega) (fun j _ hj => HI.out.noEnd j (by omega))).mono ?_
    rintro e w5 ⟨rfl, L5⟩
    have B1'' := (B1'.below L4).below L5
    have B2'' := (B2'.below L4).below L5
    have B3' := B3.below L5
    go_wp2_with fail
    refine (clone_buf g n b1 0 n _ B1'').mono ?_
    rintro e w6 ⟨b4, rfl, B4, L6⟩
    go_wp2_with fail
    refine (zz0W g n b4 cut i _ _ false _ B4 rfl rfl (HI.out.from hc) HWn.out).mono ?_
    rintro e w7 ⟨rfl, L7⟩
    have LL : Hid (Below w.heap.size w w7) := chain L1 (chain L2 (chain L3 (chain L4 (chain L5 (chain L6 L7)))))
    go_wp2_with fail
    refine (zzEqual_empty _ _ _ _ _).mono ?_
    rintro e w' ⟨rfl, hw⟩
    rw [hw]
    clear hw
    go_wp2
    go_ret
    exact ⟨rfl, LL.out⟩
  · refine (clone_buf g cut b1 0 n _ (B1'.pre cut hcut)).mono ?_
    rintro e w4 ⟨b3, rfl, B3, L4⟩
    go_wp2_with fail
    refine (zz0W g cut b3 0 i _ _ false _ B3 rfl rfl (HI.out.upto (by omega)) (HWc.out (by omega))).mono ?_
    rintro e w5 ⟨rfl, L5⟩
    have B1'' := (B1'.below L4).below L5
    have B2'' := (B2'.below L4).below L5
    have B3' := B3.below L5
    go_wp2_with fail
    refine (clone_buf g n b1 0 n _ B1'').mono ?_
    rintro e w6 ⟨b4, rfl, B4, L6⟩
    go_wp2_with fail
    refine (zz0W g n b4 i i _ _ false _ B4 rfl rfl (HI.out.from (Nat.le_refl _)) HWn.out).mono ?_
    rintro e w7 ⟨rfl, L7⟩
    have LL : Hid (Below w.heap.size w w7) := chain L1 (chain L2 (chain L3 (chain L4 (chain L5 (chain L6 L7)))))
    go_wp2_with fail
    refine (zzEqual_empty _ _ _ _ _).mono ?_
    rintro e w' ⟨rfl, hw⟩
    rw [hw]
    clear hw
    go_wp2
    go_ret
    exact ⟨rfl, LL.out⟩
end Go.Proofs.Qxb6003622aDoor
