import Derived.Test.Qxb6003622aDoorZZ
namespace Go.Proofs.Qxb6003622aDoor
open Go.RowKit

theorem Buf.pre {g : Nat → UInt8} {n b off : Nat} {w : World} (h : Buf g n b off w) (k : Nat) (hk : k ≤ n) : Buf g k b off w :=
  ⟨Nat.le_trans hk h.le, h.b3, h.bw, h.env, fun j hj => h.ba j (Nat.lt_of_lt_of_le hj hk)⟩

theorem chain {a b c : World} (h : Below a.heap.size a b) (k : Below b.heap.size b c) : Below a.heap.size a c := h.trans (k.mono h.size)

/-- zzClone: a new row with the same bytes. -/
theorem clone_buf (g : Nat → UInt8) (n b off c : Nat) (w : World) (h : Buf g n b off w) :
    Calls Tryd.prog 6 #[.slice (some ⟨b, off, none⟩) n c] w fun e w' => ∃ b', e = .returned (.slice (some ⟨b', 0, none⟩) n n) ∧ Buf g n b' 0 w' ∧ Below w.heap.size w w' := by
  refine (zzClone_some g n b off c w h.le h.bw h.ba).mono ?_
  rintro e w' ⟨he, rfl⟩
  have hb : Below w.heap.size w (w.alloc (.cells (clArr g n n) 5)) := (Below.refl _ _).alloc (Nat.le_refl _) _
  exact ⟨_, he, ⟨h.le, Nat.le_trans h.b3 hb.size, by simp, h.env.below hb h.b3, clArr_BA w g n⟩, hb⟩

theorem first_any (g : Nat → UInt8) (n b off c : Nat) (w : World) (h : Buf g n b off w) :
    Calls Tryd.prog 8 #[.slice (some ⟨b, off, none⟩) n c, .int .i64 0] w fun e w' => ∃ r, e = .returned (.int .i64 r) ∧ IsFirst g n r ∧ w' = w :=
  zzFirstEnd_any g n b off c w h.le h.ba

/-- ZZLine from the start of the buffer, S0 bytes scanned. -/
theorem zz0N (g : Nat → UInt8) (n b S0 : Nat) (pz sz : Int) (final : Bool) (w : World) (h : Buf g n b 0 w) (hp : pz = 0) (hs : sz = S0) (hq : S0 ≤ n)
    (hno : ∀ j, S0 ≤ j → j < n → isEnd (g j) = false) :
    Calls Tryd.prog 7 #[.slice (some ⟨b, 0, none⟩) n n, .int .i64 0, .int .i64 pz, .int .i64 sz, .bool final] w fun e w' =>
      e = .returned (.tuple #[.slice none 0 0, .bool false, .int .i64 0, .int .i64 n]) ∧ Below w.heap.size w w' := by
  subst hp hs
  exact zzN g n b 0 0 S0 0 final w h (by omega) (fun j hj => hno j (by omega))
theorem zz0W (g : Nat → UInt8) (n b S0 i : Nat) (pz sz : Int) (final : Bool) (w : World) (h : Buf g n b 0 w) (hp : pz = 0) (hs : sz = S0) (hi : Fst g n S0 i) (hw : whole g n i final = false) :
    Calls Tryd.prog 7 #[.slice (some ⟨b, 0, none⟩) n n, .int .i64 0, .int .i64 pz, .int .i64 sz, .bool final] w fun e w' =>
      e = .returned (.tuple #[.slice none 0 0, .bool false, .int .i64 0, .int .i64 i]) ∧ Below w.heap.size w w' := by
  subst hp hs
  exact zzW g n b 0 0 S0 i 0 final w h (by rw [Nat.zero_add]; exact hi) hw
theorem zz0H (g : Nat → UInt8) (n b S0 i : Nat) (pz sz : Int) (final : Bool) (w : World) (h : Buf g n b 0 w) (hp : pz = 0) (hs : sz = S0) (hi : Fst g n S0 i) (hw : whole g n i final = true) :
    Calls Tryd.prog 7 #[.slice (some ⟨b, 0, none⟩) n n, .int .i64 0, .int .i64 pz, .int .i64 sz, .bool final] w fun e w' =>
      e = .returned (.tuple #[.slice (some ⟨b, 0, none⟩) i n, .bool true, .int .i64 ((i + elen g n i : Nat) : Int), .int .i64 0]) ∧ Below w.heap.size w w' := by
  subst hp hs
  exact zzH g n b 0 0 S0 i 0 final w h (by rw [Nat.zero_add]; exact hi) hw

set_option maxHeartbeats 1000000 in
set_option maxRecDepth 100000 in
/-- THE LAW where the buffer has no line end. -/
theorem law_none (g : Nat → UInt8) (n b off c cut : Nat) (final : Bool) (w : World) (h : Buf g n b off w) (hcut : cut ≤ n) (hno : NoEnd g n) :
    Calls Tryd.prog 3 #[.slice (some ⟨b, off, none⟩) n c, .int .i64 cut, .bool final] w fun e w' => e = .returned (.bool true) ∧ Below w.heap.size w w' := by
  have hle := h.le
  have hz1 : (n : Int) ≤ 1048576 := by omega
  have hz2 : (cut : Int) ≤ (n : Int) := by omega
  have HN := hide hno
  clear hno
  go_enter Tryd.func3, Tryd.ntmps3
  go_wp2_with fail
  refine (zzBytes_any _ _ _ _ _ _ (by unfold maxLen; omega)).mono ?_
  rintro e w' ⟨rfl, hw⟩
  rw [hw, decide_eq_true hle]
  clear hw
  go_wp2_with fail
  refine (clone_buf g n b off c _ h).mono ?_
  rintro e w1 ⟨b1, rfl, B1, L1⟩
  go_wp2_with fail
  refine (clone_buf g n b1 0 n _ B1).mono ?_
  rintro e w2 ⟨b2, rfl, B2, L2⟩
  go_wp2_with fail
  refine (zz0N g n b2 0 _ _ final _ B2 rfl rfl (by omega) (fun j _ hj => HN.out j hj)).mono ?_
  rintro e w3 ⟨rfl, L3⟩
  have B1' := (B1.below L2).below L3
  go_wp2_with fail
  refine (first_any g n b1 0 n _ B1').mono ?_
  rintro e w' ⟨r, rfl, hr, hw⟩
  rw [hw, hr.of_none HN.out]
  clear hw hr
  go_wp2_with fail
  refine (clone_buf g cut b1 0 n _ (B1'.pre cut hcut)).mono ?_
  rintro e w4 ⟨b3, rfl, B3, L4⟩
  go_wp2_with fail
  refine (zz0N g cut b3 0 _ _ false _ B3 rfl rfl (by omega) (fun j _ hj => HN.out j (by omega))).mono ?_
  rintro e w5 ⟨rfl, L5⟩
  have B1'' := (B1'.below L4).below L5
  go_wp2_with fail
  refine (clone_buf g n b1 0 n _ B1'').mono ?_
  rintro e w6 ⟨b4, rfl, B4, L6⟩
  go_wp2_with fail
  refine (zz0N g n b4 cut _ _ final _ B4 rfl rfl hcut (fun j _ hj => HN.out j hj)).mono ?_
  rintro e w7 ⟨rfl, L7⟩
  have LL : Hid (Below w.heap.size w w7) := chain L1 (chain L2 (chain L3 (chain L4 (chain L5 (chain L6 L7)))))
  go_wp2_with fail
  refine (zzEqual_empty _ _ _ _ _).mono ?_
  rintro e w' ⟨rfl, hw⟩
  rw [hw]
  clear hw
  go_wp2
  go_ret
  exact ⟨rfl, LL.out⟩
end Go.Proofs.Qxb6003622aDoor
