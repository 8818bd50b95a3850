import Derived.Test.Qxb6003622aDoorLawW
namespace Go.Proofs.Qxb6003622aDoor
open Go.RowKit

set_option maxHeartbeats 2000000 in
set_option maxRecDepth 100000 in
/-- THE LAW: law_lf_fin. -/
theorem law_lf_fin (g : Nat → UInt8) (n b off c cut i : Nat) (w : World) (h : Buf g n b off w) (hcut : cut ≤ n) (hi : Fst g n 0 i) (hch : g i = 10) :
    Calls Tryd.prog 3 #[.slice (some ⟨b, off, none⟩) n c, .int .i64 cut, .bool true] w fun e w' => e = .returned (.bool true) ∧ Below w.heap.size w w' := by
  have hle := h.le
  have hlt := hi.lt
  have hz1 : (n : Int) ≤ 1048576 := by omega
  have hz2 : (cut : Int) ≤ (n : Int) := by omega
  have hz3 : (i : Int) < (n : Int) := by omega
  have HWn : Hid (whole g n i true = true) := by
    show whole g n i true = true
    unfold whole; rw [hch]; rfl
  have HE : Hid (elen g n i = 1) := by
    show elen g n i = 1
    unfold elen; rw [if_neg (fun hh => by rw [hch] at hh; exact absurd hh.1 (by decide))]
  have HC := hide hch
  have HWc : Hid (i < cut → whole g cut i false = true) := fun hl => by
    unfold whole; rw [hch]; simp
  clear hch
  have HI := hide hi
  clear hi
  go_enter Tryd.func3, Tryd.ntmps3
  go_wp2_with fail
  refine (zzBytes_any _ _ _ _ _ _ (by unfold maxLen; omega)).mono ?_
  rintro e w' ⟨rfl, hw⟩
  rw [hw, decide_eq_true hle]
  clear hw
  go_wp2_with fail
  refine (clone_buf g n b off c _ h).mono ?_
  rintro e w1 ⟨b1, rfl, B1, L1⟩
  go_wp2_with fail
  refine (clone_buf g n b1 0 n _ B1).mono ?_
  rintro e w2 ⟨b2, rfl, B2, L2⟩
  go_wp2_with fail
  refine (zz0H g n b2 0 i _ _ true _ B2 rfl rfl HI.out HWn.out).mono ?_
  rintro e w3 ⟨rfl, L3⟩
  have B1' := (B1.below L2).below L3
  have B2' := B2.below L3
  go_wp2_with fail
  refine (first_any g n b1 0 n _ B1').mono ?_
  rintro e w' ⟨r, rfl, hr, hw⟩
  rw [hw, HI.out.isFirst hr]
  clear hw hr
  have hci : ∀ wx, Below w3.heap.size w3 wx → wx.cell? ⟨b1, i, none⟩ = some (.int .u8 10) := fun wx hx => by
    have := (B1'.below hx).ba i HI.out.lt
    rw [Nat.zero_add, HC.out] at this
    exact this
  have hci0 := hci w3 (Below.refl _ _)
  rw [HE.out]
  go_wp2_with fail
  refine (equal_buf g i b2 0 n b1 0 n _ (B2'.pre i (by omega)) (B1'.pre i (by omega))).mono ?_
  rintro e w3e ⟨rfl, L3e⟩
  have B1e := B1'.below L3e
  have B2e := B2'.below L3e
  have hci1 := hci w3e L3e
  clear hci
  go_wp2_with fail
  by_cases hc : cut ≤ i
  · refine (clone_buf g cut b1 0 n _ (B1e.pre cut hcut)).mono ?_
    rintro e w4 ⟨b3, rfl, B3, L4⟩
    go_wp2_with fail
    refine (zz0N g cut b3 0 _ _ false _ B3 rfl rfl (by omega) (fun j _ hj => HI.out.noEnd j (by omega))).mono ?_
    rintro e w5 ⟨rfl, L5⟩
    have B1'' := (B1e.below L4).below L5
    have B2'' := (B2e.below L4).below L5
    have B3' := B3.below L5
    go_wp2_with fail
    refine (clone_buf g n b1 0 n _ B1'').mono ?_
    rintro e w6 ⟨b4, rfl, B4, L6⟩
    go_wp2_with fail
    refine (zz0H g n b4 cut i _ _ true _ B4 rfl rfl (HI.out.from hc) HWn.out).mono ?_
    rintro e w7 ⟨rfl, L7⟩
    rw [HE.out]
    have B4' := B4.below L7
    have B2f := (B2''.below L6).below L7
    have LL : Hid (Below w.heap.size w w7) := chain L1 (chain L2 (chain L3 (chain L3e (chain L4 (chain L5 (chain L6 L7))))))
    go_wp2_with fail
    refine (equal_buf g i b4 0 n b2 0 n _ (B4'.pre i (by omega)) (B2f.pre i (by omega))).mono ?_
    rintro e w8 ⟨rfl, L8⟩
    have LF : Hid (Below w.heap.size w w8) := chain LL.out L8
    go_wp2
    go_ret
    exact ⟨rfl, LF.out⟩
  · refine (clone_buf g cut b1 0 n _ (B1e.pre cut hcut)).mono ?_
    rintro e w4 ⟨b3, rfl, B3, L4⟩
    go_wp2_with fail
    refine (zz0H g cut b3 0 i _ _ false _ B3 rfl rfl (HI.out.upto (by omega)) (HWc.out (by omega))).mono ?_
    rintro e w5 ⟨rfl, L5⟩
    have B1'' := (B1e.below L4).below L5
    have B2'' := (B2e.below L4).below L5
    have B3' := B3.below L5
    rw [elen_same hcut (HWc.out (by omega)), HE.out]
    have LL : Hid (Below w.heap.size w w5) := chain L1 (chain L2 (chain L3 (chain L3e (chain L4 L5))))
    go_wp2_with fail
    refine (equal_buf g i b3 0 cut b2 0 n _ (B3'.pre i (by omega)) (B2''.pre i (by omega))).mono ?_
    rintro e w8 ⟨rfl, L8⟩
    have LF : Hid (Below w.heap.size w w8) := chain LL.out L8
    go_wp2
    go_ret
    exact ⟨rfl, LF.out⟩

set_option maxHeartbeats 2000000 in
set_option maxRecDepth 100000 in
/-- THE LAW: law_lf_mid. -/
theorem law_lf_mid (g : Nat → UInt8) (n b off c cut i : Nat) (w : World) (h : Buf g n b off w) (hcut : cut ≤ n) (hi : Fst g n 0 i) (hch : g i = 10) (hmore : i + 1 < n) :
    Calls Tryd.prog 3 #[.slice (some ⟨b, off, none⟩) n c, .int .i64 cut, .bool false] w fun e w' => e = .returned (.bool true) ∧ Below w.heap.size w w' := by
  have hle := h.le
  have hlt := hi.lt
  have hz1 : (n : Int) ≤ 1048576 := by omega
  have hz2 : (cut : Int) ≤ (n : Int) := by omega
  have hz3 : (i : Int) < (n : Int) := by omega
  have hz4 : (i : Int) < (n : Int) - 1 := by omega
  have hz5 : (i : Int) + 1 < (n : Int) := by omega
  have HWn : Hid (whole g n i false = true) := by
    show whole g n i false = true
    unfold whole; rw [hch]; simp
  have HE : Hid (elen g n i = 1) := by
    show elen g n i = 1
    unfold elen; rw [if_neg (fun hh => by rw [hch] at hh; exact absurd hh.1 (by decide))]
  have HC := hide hch
  have HWc : Hid (i < cut → whole g cut i false = true) := fun hl => by
    unfold whole; rw [hch]; simp
  clear hch hmore
  have HI := hide hi
  clear hi
  go_enter Tryd.func3, Tryd.ntmps3
  go_wp2_with fail
  refine (zzBytes_any _ _ _ _ _ _ (by unfold maxLen; omega)).mono ?_
  rintro e w' ⟨rfl, hw⟩
  rw [hw, decide_eq_true hle]
  clear hw
  go_wp2_with fail
  refine (clone_buf g n b off c _ h).mono ?_
  rintro e w1 ⟨b1, rfl, B1, L1⟩
  go_wp2_with fail
  refine (clone_buf g n b1 0 n _ B1).mono ?_
  rintro e w2 ⟨b2, rfl, B2, L2⟩
  go_wp2_with fail
  refine (zz0H g n b2 0 i _ _ false _ B2 rfl rfl HI.out HWn.out).mono ?_
  rintro e w3 ⟨rfl, L3⟩
  have B1' := (B1.below L2).below L3
  have B2' := B2.below L3
  go_wp2_with fail
  refine (first_any g n b1 0 n _ B1').mono ?_
  rintro e w' ⟨r, rfl, hr, hw⟩
  rw [hw, HI.out.isFirst hr]
  clear hw hr
  have hci : ∀ wx, Below w3.heap.size w3 wx → wx.cell? ⟨b1, i, none⟩ = some (.int .u8 10) := fun wx hx => by
    have := (B1'.below hx).ba i HI.out.lt
    rw [Nat.zero_add, HC.out] at this
    exact this
  have hci0 := hci w3 (Below.refl _ _)
  rw [HE.out]
  go_wp2_with fail
  refine (equal_buf g i b2 0 n b1 0 n _ (B2'.pre i (by omega)) (B1'.pre i (by omega))).mono ?_
  rintro e w3e ⟨rfl, L3e⟩
  have B1e := B1'.below L3e
  have B2e := B2'.below L3e
  have hci1 := hci w3e L3e
  clear hci
  go_wp2_with fail
  by_cases hc : cut ≤ i
  · refine (clone_buf g cut b1 0 n _ (B1e.pre cut hcut)).mono ?_
    rintro e w4 ⟨b3, rfl, B3, L4⟩
    go_wp2_with fail
    refine (zz0N g cut b3 0 _ _ false _ B3 rfl rfl (by omega) (fun j _ hj => HI.out.noEnd j (by omega))).mono ?_
    rintro e w5 ⟨rfl, L5⟩
    have B1'' := (B1e.below L4).below L5
    have B2'' := (B2e.below L4).below L5
    have B3' := B3.below L5
    go_wp2_with fail
    refine (clone_buf g n b1 0 n _ B1'').mono ?_
    rintro e w6 ⟨b4, rfl, B4, L6⟩
    go_wp2_with fail
    refine (zz0H g n b4 cut i _ _ false _ B4 rfl rfl (HI.out.from hc) HWn.out).mono ?_
    rintro e w7 ⟨rfl, L7⟩
    rw [HE.out]
    have B4' := B4.below L7
    have B2f := (B2''.below L6).below L7
    have LL : Hid (Below w.heap.size w w7) := chain L1 (chain L2 (chain L3 (chain L3e (chain L4 (chain L5 (chain L6 L7))))))
    go_wp2_with fail
    refine (equal_buf g i b4 0 n b2 0 n _ (B4'.pre i (by omega)) (B2f.pre i (by omega))).mono ?_
    rintro e w8 ⟨rfl, L8⟩
    have LF : Hid (Below w.heap.size w w8) := chain LL.out L8
    go_wp2
    go_ret
    exact ⟨rfl, LF.out⟩
  · refine (clone_buf g cut b1 0 n _ (B1e.pre cut hcut)).mono ?_
    rintro e w4 ⟨b3, rfl, B3, L4⟩
    go_wp2_with fail
    refine (zz0H g cut b3 0 i _ _ false _ B3 rfl rfl (HI.out.upto (by omega)) (HWc.out (by omega))).mono ?_
    rintro e w5 ⟨rfl, L5⟩
    have B1'' := (B1e.below L4).below L5
    have B2'' := (B2e.below L4).below L5
    have B3' := B3.below L5
    rw [elen_same hcut (HWc.out (by omega)), HE.out]
    have LL : Hid (Below w.heap.size w w5) := chain L1 (chain L2 (chain L3 (chain L3e (chain L4 L5))))
    go_wp2_with fail
    refine (equal_buf g i b3 0 cut b2 0 n _ (B3'.pre i (by omega)) (B2''.pre i (by omega))).mono ?_
    rintro e w8 ⟨rfl, L8⟩
    have LF : Hid (Below w.heap.size w w8) := chain LL.out L8
    go_wp2
    go_ret
    exact ⟨rfl, LF.out⟩

set_option maxHeartbeats 2000000 in
set_option maxRecDepth 100000 in
/-- THE LAW: law_lf_last. -/
theorem law_lf_last (g : Nat → UInt8) (n b off c cut i : Nat) (w : World) (h : Buf g n b off w) (hcut : cut ≤ n) (hi : Fst g n 0 i) (hch : g i = 10) (hlast : i + 1 = n) :
    Calls Tryd.prog 3 #[.slice (some ⟨b, off, none⟩) n c, .int .i64 cut, .bool false] w fun e w' => e = .returned (.bool true) ∧ Below w.heap.size w w' := by
  have hle := h.le
  have hlt := hi.lt
  have hz1 : (n : Int) ≤ 1048576 := by omega
  have hz2 : (cut : Int) ≤ (n : Int) := by omega
  have hz3 : (i : Int) < (n : Int) := by omega
  have hz4 : (n : Int) - 1 ≤ (i : Int) := by omega
  have hz5 : (n : Int) ≤ (i : Int) + 1 := by omega
  have HWn : Hid (whole g n i false = true) := by
    show whole g n i false = true
    unfold whole; rw [hch]; simp
  have HE : Hid (elen g n i = 1) := by
    show elen g n i = 1
    unfold elen; rw [if_neg (fun hh => by rw [hch] at hh; exact absurd hh.1 (by decide))]
  have HC := hide hch
  have HWc : Hid (i < cut → whole g cut i false = true) := fun hl => by
    unfold whole; rw [hch]; simp
  clear hch
  have HI := hide hi
  clear hi
  go_enter Tryd.func3, Tryd.ntmps3
  go_wp2_with fail
  refine (zzBytes_any _ _ _ _ _ _ (by unfold maxLen; omega)).mono ?_
  rintro e w' ⟨rfl, hw⟩
  rw [hw, decide_eq_true hle]
  clear hw
  go_wp2_with fail
  refine (clone_buf g n b off c _ h).mono ?_
  rintro e w1 ⟨b1, rfl, B1, L1⟩
  go_wp2_with fail
  refine (clone_buf g n b1 0 n _ B1).mono ?_
  rintro e w2 ⟨b2, rfl, B2, L2⟩
  go_wp2_with fail
  refine (zz0H g n b2 0 i _ _ false _ B2 rfl rfl HI.out HWn.out).mono ?_
  rintro e w3 ⟨rfl, L3⟩
  have B1' := (B1.below L2).below L3
  have B2' := B2.below L3
  go_wp2_with fail
  refine (first_any g n b1 0 n _ B1').mono ?_
  rintro e w' ⟨r, rfl, hr, hw⟩
  rw [hw, HI.out.isFirst hr]
  clear hw hr
  have hci : ∀ wx, Below w3.heap.size w3 wx → wx.cell? ⟨b1, i, none⟩ = some (.int .u8 10) := fun wx hx => by
    have := (B1'.below hx).ba i HI.out.lt
    rw [Nat.zero_add, HC.out] at this
    exact this
  have hci0 := hci w3 (Below.refl _ _)
  rw [HE.out]
  go_wp2_with fail
  refine (equal_buf g i b2 0 n b1 0 n _ (B2'.pre i (by omega)) (B1'.pre i (by omega))).mono ?_
  rintro e w3e ⟨rfl, L3e⟩
  have B1e := B1'.below L3e
  have B2e := B2'.below L3e
  have hci1 := hci w3e L3e
  clear hci
  go_wp2_with fail
  by_cases hc : cut ≤ i
  · refine (clone_buf g cut b1 0 n _ (B1e.pre cut hcut)).mono ?_
    rintro e w4 ⟨b3, rfl, B3, L4⟩
    go_wp2_with fail
    refine (zz0N g cut b3 0 _ _ false _ B3 rfl rfl (by omega) (fun j _ hj => HI.out.noEnd j (by omega))).mono ?_
    rintro e w5 ⟨rfl, L5⟩
    have B1'' := (B1e.below L4).below L5
    have B2'' := (B2e.below L4).below L5
    have B3' := B3.below L5
    go_wp2_with fail
    refine (clone_buf g n b1 0 n _ B1'').mono ?_
    rintro e w6 ⟨b4, rfl, B4, L6⟩
    go_wp2_with fail
    refine (zz0H g n b4 cut i _ _ false _ B4 rfl rfl (HI.out.from hc) HWn.out).mono ?_
    rintro e w7 ⟨rfl, L7⟩
    rw [HE.out]
    have B4' := B4.below L7
    have B2f := (B2''.below L6).below L7
    have LL : Hid (Below w.heap.size w w7) := chain L1 (chain L2 (chain L3 (chain L3e (chain L4 (chain L5 (chain L6 L7))))))
    go_wp2_with fail
    refine (equal_buf g i b4 0 n b2 0 n _ (B4'.pre i (by omega)) (B2f.pre i (by omega))).mono ?_
    rintro e w8 ⟨rfl, L8⟩
    have LF : Hid (Below w.heap.size w w8) := chain LL.out L8
    go_wp2
    go_ret
    exact ⟨rfl, LF.out⟩
  · refine (clone_buf g cut b1 0 n _ (B1e.pre cut hcut)).mono ?_
    rintro e w4 ⟨b3, rfl, B3, L4⟩
    go_wp2_with fail
    refine (zz0H g cut b3 0 i _ _ false _ B3 rfl rfl (HI.out.upto (by omega)) (HWc.out (by omega))).mono ?_
    rintro e w5 ⟨rfl, L5⟩
    have B1'' := (B1e.below L4).below L5
    have B2'' := (B2e.below L4).below L5
    have B3' := B3.below L5
    rw [elen_same hcut (HWc.out (by omega)), HE.out]
    have LL : Hid (Below w.heap.size w w5) := chain L1 (chain L2 (chain L3 (chain L3e (chain L4 L5))))
    go_wp2_with fail
    refine (equal_buf g i b3 0 cut b2 0 n _ (B3'.pre i (by omega)) (B2''.pre i (by omega))).mono ?_
    rintro e w8 ⟨rfl, L8⟩
    have LF : Hid (Below w.heap.size w w8) := chain LL.out L8
    go_wp2
    go_ret
    exact ⟨rfl, LF.out⟩
end Go.Proofs.Qxb6003622aDoor
