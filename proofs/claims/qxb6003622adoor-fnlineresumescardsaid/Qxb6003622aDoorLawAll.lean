import Derived.Test.Qxb6003622aDoorLawH1
import Derived.Test.Qxb6003622aDoorLawH2
import Derived.Test.Qxb6003622aDoorLawH3
import Derived.Test.Qxb6003622aDoorLawH4
namespace Go.Proofs.Qxb6003622aDoor
open Go.RowKit

set_option maxHeartbeats 1000000 in
set_option maxRecDepth 100000 in
/-- More than 2^20 bytes. -/
theorem law_long (a : Option Addr) (n c : Nat) (cut : Int) (final : Bool) (w : World) (hn : n ≤ maxLen) (h : ¬ n ≤ 1048576) :
    Calls Tryd.prog 3 #[.slice a n c, .int .i64 cut, .bool final] w fun e w' => e = .returned (.bool true) ∧ Below w.heap.size w w' := by
  go_enter Tryd.func3, Tryd.ntmps3
  go_wp2_with fail
  refine (zzBytes_any _ _ _ _ _ _ hn).mono ?_
  rintro e w' ⟨rfl, hw⟩
  rw [hw, decide_eq_false h]
  clear hw
  go_wp2
  go_ret
  exact ⟨rfl, Below.refl _ _⟩

set_option maxHeartbeats 1000000 in
set_option maxRecDepth 100000 in
/-- A cut out of the buffer. -/
theorem law_out (a : Option Addr) (n c : Nat) (cut : Int) (final : Bool) (w : World) (h : n ≤ 1048576) (hc : cut < 0 ∨ (n : Int) < cut) :
    Calls Tryd.prog 3 #[.slice a n c, .int .i64 cut, .bool final] w fun e w' => e = .returned (.bool true) ∧ Below w.heap.size w w' := by
  have hz1 : (n : Int) ≤ 1048576 := by omega
  rcases hc with hc | hc
  · go_enter Tryd.func3, Tryd.ntmps3
    go_wp2_with fail
    refine (zzBytes_any _ _ _ _ _ _ (by unfold maxLen; omega)).mono ?_
    rintro e w' ⟨rfl, hw⟩
    rw [hw, decide_eq_true h]
    clear hw
    go_wp2
    go_ret
    exact ⟨rfl, Below.refl _ _⟩
  · have h0 : 0 ≤ cut := by omega
    go_enter Tryd.func3, Tryd.ntmps3
    go_wp2_with fail
    refine (zzBytes_any _ _ _ _ _ _ (by unfold maxLen; omega)).mono ?_
    rintro e w' ⟨rfl, hw⟩
    rw [hw, decide_eq_true h]
    clear hw
    go_wp2
    go_ret
    exact ⟨rfl, Below.refl _ _⟩

set_option maxHeartbeats 1000000 in
set_option maxRecDepth 100000 in
/-- The nil buffer. -/
theorem law_nil (final : Bool) (w : World) :
    Calls Tryd.prog 3 #[.slice none 0 0, .int .i64 0, .bool final] w fun e w' => e = .returned (.bool true) ∧ Below w.heap.size w w' := by
  go_enter Tryd.func3, Tryd.ntmps3
  go_wp2_with fail
  refine (zzBytes_any _ _ _ _ _ _ (by unfold maxLen; omega)).mono ?_
  rintro e w' ⟨rfl, hw⟩
  rw [hw, decide_eq_true (by omega)]
  clear hw
  go_wp2_with fail
  refine (zzClone_nil _).mono ?_
  rintro e w' ⟨rfl, hw⟩
  rw [hw]
  clear hw
  go_wp2_with fail
  refine (zzClone_nil _).mono ?_
  rintro e w' ⟨rfl, hw⟩
  rw [hw]
  clear hw
  go_wp2_with fail
  refine (zz_empty _ _ _ _).mono ?_
  rintro e w1 ⟨rfl, L1⟩
  go_wp2_with fail
  refine (zzFirstEnd_empty _ _ _).mono ?_
  rintro e w' ⟨rfl, hw⟩
  rw [hw]
  clear hw
  go_wp2_with fail
  refine (zzClone_nil _).mono ?_
  rintro e w' ⟨rfl, hw⟩
  rw [hw]
  clear hw
  go_wp2_with fail
  refine (zz_empty _ _ _ _).mono ?_
  rintro e w2 ⟨rfl, L2⟩
  go_wp2_with fail
  refine (zzClone_nil _).mono ?_
  rintro e w' ⟨rfl, hw⟩
  rw [hw]
  clear hw
  go_wp2_with fail
  refine (zz_empty _ _ _ _).mono ?_
  rintro e w3 ⟨rfl, L3⟩
  have LL : Hid (Below w.heap.size w w3) := chain L1 (chain L2 L3)
  go_wp2_with fail
  refine (zzEqual_empty _ _ _ _ _).mono ?_
  rintro e w' ⟨rfl, hw⟩
  rw [hw]
  clear hw
  go_wp2
  go_ret
  exact ⟨rfl, LL.out⟩

set_option maxHeartbeats 400000 in
theorem zzClone_empty (x : Addr) (c : Nat) (w : World) :
    Calls Tryd.prog 6 #[.slice (some x) 0 c] w fun e w' => e = .returned (.slice (some ⟨w.heap.size, 0, none⟩) 0 0) ∧ w' = w.alloc (.cells #[] 5) := by
  have hmk : ∀ W : World, (Instr.makeSlice 22 (.int .i64 0) (.int .i64 0)).run Tryd.prog W = .ok (.slice (some ⟨W.heap.size, 0, none⟩) 0 0) (W.alloc (.cells #[] 5)) := fun W => by
    obtain ⟨i0, hi, hz0, hz1, hz2⟩ := info_parts info5
    have h := run_make (P := Tryd.prog) W 22 5 i0 (.int .u8 0) Tryd.underlying22 hi hz0 .i64 .i64 0 0 (by omega) (by omega) (by omega) (by omega)
    rw [h]
    simp [madeCells, Array.range_zero']
  have q22 : ∀ (w : World) (a : Option Addr) (n c n' c' : Nat), (binOp .eql 22 (.slice a n c) (.slice none n' c')).run Tryd.prog w = .ok (.bool a.isNone) w := fun w a n c n' c' => Lib.run_eql_slice_nil w _ _ a n c n' c' Tryd.underlying22
  go_enter Tryd.func6, Tryd.ntmps6
  go_wp2
  go_loopw [4] (fun i wr => i = .int .i64 0 ∧ wr = w.alloc (.cells #[] 5)) (fun _ _ => 0)
  case atStart => exact ⟨rfl, rfl⟩
  case round =>
    obtain ⟨rfl, rfl⟩ := hrel
    go_wp2
    go_ret
    exact ⟨rfl, rfl⟩
theorem clone_empty (g : Nat → UInt8) (x : Addr) (c : Nat) (w : World) (hE : Env w) (h3 : 3 ≤ w.heap.size) :
    Calls Tryd.prog 6 #[.slice (some x) 0 c] w fun e w' => ∃ b', e = .returned (.slice (some ⟨b', 0, none⟩) 0 0) ∧ Buf g 0 b' 0 w' ∧ Below w.heap.size w w' := by
  refine (zzClone_empty x c w).mono ?_
  rintro e w' ⟨he, rfl⟩
  have hb : Below w.heap.size w (w.alloc (.cells #[] 5)) := (Below.refl _ _).alloc (Nat.le_refl _) _
  exact ⟨_, he, ⟨by omega, Nat.le_trans h3 hb.size, by simp, hE.below hb h3, fun j hj => absurd hj (Nat.not_lt_zero _)⟩, hb⟩

set_option maxHeartbeats 1000000 in
set_option maxRecDepth 100000 in
/-- THE LAW at an empty buffer that is not nil, wherever it points. -/
theorem law_empty (x : Addr) (c : Nat) (final : Bool) (w : World) (hE : Env w) (h3 : 3 ≤ w.heap.size) :
    Calls Tryd.prog 3 #[.slice (some x) 0 c, .int .i64 0, .bool final] w fun e w' => e = .returned (.bool true) ∧ Below w.heap.size w w' := by
  go_enter Tryd.func3, Tryd.ntmps3
  go_wp2_with fail
  refine (zzBytes_any _ _ _ _ _ _ (by unfold maxLen; omega)).mono ?_
  rintro e w' ⟨rfl, hw⟩
  rw [hw, decide_eq_true (by omega)]
  clear hw
  go_wp2_with fail
  refine (clone_empty (fun _ => 0) x c _ hE h3).mono ?_
  rintro e w1 ⟨b1, rfl, B1, L1⟩
  go_wp2_with fail
  refine (clone_buf (fun _ => 0) 0 b1 0 0 _ B1).mono ?_
  rintro e w2 ⟨b2, rfl, B2, L2⟩
  go_wp2_with fail
  refine (zz0N (fun _ => 0) 0 b2 0 _ _ final _ B2 rfl rfl (by omega) (fun j _ hj => absurd hj (Nat.not_lt_zero _))).mono ?_
  rintro e w3 ⟨rfl, L3⟩
  have B1' := (B1.below L2).below L3
  go_wp2_with fail
  refine (first_any (fun _ => 0) 0 b1 0 0 _ B1').mono ?_
  rintro e w' ⟨r, rfl, hr, hw⟩
  rw [hw, hr.of_none (NoEnd.zero _)]
  clear hw hr
  go_wp2_with fail
  refine (clone_buf (fun _ => 0) 0 b1 0 0 _ B1').mono ?_
  rintro e w4 ⟨b3, rfl, B3, L4⟩
  go_wp2_with fail
  refine (zz0N (fun _ => 0) 0 b3 0 _ _ false _ B3 rfl rfl (by omega) (fun j _ hj => absurd hj (Nat.not_lt_zero _))).mono ?_
  rintro e w5 ⟨rfl, L5⟩
  have B1'' := (B1'.below L4).below L5
  go_wp2_with fail
  refine (clone_buf (fun _ => 0) 0 b1 0 0 _ B1'').mono ?_
  rintro e w6 ⟨b4, rfl, B4, L6⟩
  go_wp2_with fail
  refine (zz0N (fun _ => 0) 0 b4 0 _ _ final _ B4 rfl rfl (by omega) (fun j _ hj => absurd hj (Nat.not_lt_zero _))).mono ?_
  rintro e w7 ⟨rfl, L7⟩
  have LL : Hid (Below w.heap.size w w7) := chain L1 (chain L2 (chain L3 (chain L4 (chain L5 (chain L6 L7)))))
  go_wp2_with fail
  refine (zzEqual_empty _ _ _ _ _).mono ?_
  rintro e w' ⟨rfl, hw⟩
  rw [hw]
  clear hw
  go_wp2
  go_ret
  exact ⟨rfl, LL.out⟩

theorem first_or (g : Nat → UInt8) : ∀ n, NoEnd g n ∨ ∃ i, Fst g n 0 i
  | 0 => .inl (NoEnd.zero g)
  | n + 1 => by
    rcases first_or g n with h | ⟨i, h⟩
    · cases hE : isEnd (g n)
      · exact .inl (h.succ hE)
      · exact .inr ⟨n, Nat.zero_le _, Nat.lt_succ_self _, fun j _ hj => h j hj, hE⟩
    · exact .inr ⟨i, h.ge, Nat.lt_succ_of_lt h.lt, h.no, h.yes⟩

/-- THE LAW at every buffer that is not nil, the cut inside it. -/
theorem law_in (g : Nat → UInt8) (n b off c cut : Nat) (final : Bool) (w : World) (h : Buf g n b off w) (hcut : cut ≤ n) :
    Calls Tryd.prog 3 #[.slice (some ⟨b, off, none⟩) n c, .int .i64 cut, .bool final] w fun e w' => e = .returned (.bool true) ∧ Below w.heap.size w w' := by
  rcases first_or g n with hno | ⟨i, hi⟩
  · exact law_none g n b off c cut final w h hcut hno
  · have hlt := hi.lt
    rcases isEnd_cases hi.yes with h13 | h10
    · by_cases hm : i + 1 < n
      · by_cases hx : g (i + 1) = 10
        · cases final
          · exact law_crlf g n b off c cut i w h hcut hi h13 hm hx
          · exact law_crlf_fin g n b off c cut i w h hcut hi h13 hm hx
        · cases final
          · exact law_cr g n b off c cut i w h hcut hi h13 hm hx
          · exact law_cr_fin g n b off c cut i w h hcut hi h13 hm hx
      · cases final
        · exact law_wait g n b off c cut i w h hcut hi h13 (by omega)
        · exact law_cr_end g n b off c cut i w h hcut hi h13 (by omega)
    · cases final
      · by_cases hm : i + 1 < n
        · exact law_lf_mid g n b off c cut i w h hcut hi h10 hm
        · exact law_lf_last g n b off c cut i w h hcut hi h10 (by omega)
      · exact law_lf_fin g n b off c cut i w h hcut hi h10
end Go.Proofs.Qxb6003622aDoor
