import Derived.Test.Qxb6606095aDoorLeaf
import Derived.Lib.AppendIntMem
namespace Go.Proofs.Qxb6606095aDoor
open Go.RowKit
theorem sign_any (n : Bool) (s : ByteArray) (x : Int) (w : World) :
    Calls Tryd.prog 27 #[.agg #[.bool n, .string s, .int .i64 x]] w fun e w' => e = .returned (.string (str (sg n))) ∧ Below w.heap.size w w' := by
  have hB : ∀ v, Below w.heap.size w (w.alloc v) := fun v => (Below.refl _ _).alloc (Nat.le_refl _) _
  cases n
  · go_enter Tryd.func27, Tryd.ntmps27
    go_wp2
    go_ret
    exact ⟨rfl, hB _⟩
  · go_enter Tryd.func27, Tryd.ntmps27
    go_wp2
    go_ret
    exact ⟨rfl, hB _⟩
theorem repeat_any (k : Nat) (w : World) (hk : k ≤ 100) :
    Calls Tryd.prog 29 #[.string ⟨#[48]⟩, .int .i64 k] w fun e w' => e = .returned (.string (str (zs k))) ∧ Below w.heap.size w w' := by
  refine Calls.mono (Any.strings_Repeat Tryd.lays105 Tryd.builderExtra ⟨#[48]⟩ k w (by omega) (by show 1 * k ≤ _; omega)) ?_
  rintro e w' ⟨he, hw⟩
  refine ⟨?_, hw⟩
  rw [he, ← repeat_zs]
  rfl

/-- The box of a Decimal at N, and what lies below it. -/
def BoxS (w0 : World) (N : Nat) (n : Bool) (s : ByteArray) (x : Int) (w' : World) : Prop :=
  w'.cell? ⟨N, 0, none⟩ = some (.bool n) ∧ w'.cell? ⟨N, 1, none⟩ = some (.string s) ∧ w'.cell? ⟨N, 2, none⟩ = some (.int .i64 x) ∧ Hid (Below N w0 w' ∧ N < w'.heap.size)
theorem BoxS.new (w : World) (n : Bool) (s : ByteArray) (x : Int) : BoxS w w.heap.size n s x (w.alloc (.cells #[.bool n, .string s, .int .i64 x] 28)) :=
  ⟨by simp, by simp, by simp, ⟨(Below.refl _ _).alloc (Nat.le_refl _) _, by simp⟩⟩
theorem BoxS.call {w0 w1 w2 : World} {N : Nat} {n : Bool} {s : ByteArray} {x : Int} (h : BoxS w0 N n s x w1) (hb : Below w1.heap.size w1 w2) : BoxS w0 N n s x w2 := by
  obtain ⟨h0, h1, h2, h3, h4⟩ := h
  exact ⟨(hb.cell (p := ⟨N, 0, none⟩) h4).trans h0, (hb.cell (p := ⟨N, 1, none⟩) h4).trans h1, (hb.cell (p := ⟨N, 2, none⟩) h4).trans h2, ⟨h3.trans (hb.mono (Nat.le_of_lt h4)), Nat.lt_of_lt_of_le h4 hb.size⟩⟩
theorem BoxS.drew {w0 w1 : World} {N : Nat} {n : Bool} {s : ByteArray} {x : Int} (h : BoxS w0 N n s x w1) : BoxS w0 N n s x w1.drew := h.call (Below.refl _ _).drew

set_option maxHeartbeats 1000000 in
theorem ft_int (n : Bool) (s : ByteArray) (k : Nat) (w : World) (hs : s.size ≤ 1048576) (h0 : 0 < s.size) (hk : k ≤ 20) :
    Calls Tryd.prog 18 #[.agg #[.bool n, .string s, .int .i64 k]] w fun e w' => e = .returned (.string (str (sg n) ++ s ++ str (zs k) ++ ⟨#[46, 48]⟩)) ∧ Below w.heap.size w w' := by
  obtain ⟨hE, hE2⟩ := toList_some s h0
  have hkz : (k : Int) ≤ 20 := by omega
  have hk0 : (0 : Int) ≤ k := by omega
  have hpz : ¬ (s.size : Int) + k < -20 := by omega
  have hpz1 : (s.size : Int) + k ≤ 2000000 := by omega
  have hpz2 : 0 ≤ (s.size : Int) + k := by omega
  have HK := hide hk
  have HB := hide (BoxS.new w n s (k : Int))
  obtain ⟨A, hA⟩ : ∃ A, A = str (sg n) := ⟨_, rfl⟩
  obtain ⟨Z, hZ⟩ : ∃ Z, Z = str (zs k) := ⟨_, rfl⟩
  have sA : A.size ≤ 1 := by rw [hA, str_size]; cases n <;> simp [sg]
  have sZ : Z.size ≤ 20 := by rw [hZ, str_size, zs_len]; exact hk
  have cA := hide (fun w => sign_any n s (k : Int) w)
  have cZ := hide (fun w => repeat_any k w (by omega))
  rw [← hA] at cA
  rw [← hZ] at cZ
  rw [← hA, ← hZ]
  clear hA hZ
  go_enter Tryd.func18, Tryd.ntmps18
  go_wp2_with fail
  generalize (w.alloc (.cells #[.bool n, .string s, .int .i64 (k : Int)] 28)) = wb at HB ⊢
  obtain ⟨N, hN⟩ : ∃ N, N = w.heap.size := ⟨_, rfl⟩
  rw [← hN] at HB ⊢
  have HN := hide hN
  clear hN
  have hbox := HB.out
  have q1 : ¬ 9223372036854775807 < A.size + s.size := by omega
  have q2 : ¬ 9223372036854775807 < A.size + s.size + Z.size := by omega
  have q3 : ¬ 9223372036854775807 < A.size + s.size + Z.size + 2 := by omega
  go_region_held3 (fun w' => w'.cell? ⟨N, 0, none⟩ = some (.bool n) ∧ w'.cell? ⟨N, 1, none⟩ = some (.string s) ∧ w'.cell? ⟨N, 2, none⟩ = some (.int .i64 (k : Int)) ∧ Hid (Below N w w' ∧ N < w'.heap.size)) (first | assumption | exact BoxS.drew ‹_›)
    (first | (go_at_call 27; refine (cA.out _).mono ?_; rintro e w2 ⟨rfl, hB2⟩; have hS2 := BoxS.call ‹BoxS _ _ _ _ _ _› hB2) | (go_at_call 29; refine (cZ.out _).mono ?_; rintro e w3 ⟨rfl, hB3⟩; have hS3 := BoxS.call ‹BoxS _ _ _ _ _ _› hB3))
  all_goals go_wp2
  all_goals (go_ret; exact ⟨rfl, by rw [← HN.out]; exact hS3.2.2.2.1⟩)

set_option maxHeartbeats 1000000 in
theorem ft_mid (n : Bool) (s : ByteArray) (x : Int) (p : Nat) (w : World) (hs : s.size ≤ 1048576) (hp : (s.size : Int) + x = p) (h1 : 0 < p) (h2 : p < s.size) :
    Calls Tryd.prog 18 #[.agg #[.bool n, .string s, .int .i64 x]] w fun e w' => e = .returned (.string (str (sg n) ++ s.extract 0 p ++ ⟨#[46]⟩ ++ s.extract p s.size)) ∧ Below w.heap.size w w' := by
  obtain ⟨hE, hE2⟩ := toList_some s (by omega)
  have hx0 : x < 0 := by omega
  have hx1 : -1048576 ≤ x := by omega
  have hx2 : x ≤ 20 := by omega
  have hp1 : (p : Int) ≤ 1048576 := by omega
  have hp2 : (0 : Int) < p := by omega
  have hp3 : (0 : Int) ≤ p := by omega
  have hp4 : (-20 : Int) ≤ p := by omega
  have hps : (p : Int) ≤ s.size := by omega
  have HB := hide (BoxS.new w n s x)
  obtain ⟨A, hA⟩ : ∃ A, A = str (sg n) := ⟨_, rfl⟩
  have sA : A.size ≤ 1 := by rw [hA, str_size]; cases n <;> simp [sg]
  have cA := hide (fun w => sign_any n s x w)
  rw [← hA] at cA
  rw [← hA]
  clear hA
  go_enter Tryd.func18, Tryd.ntmps18
  go_wp2_with fail
  generalize (w.alloc (.cells #[.bool n, .string s, .int .i64 x] 28)) = wb at HB ⊢
  obtain ⟨N, hN⟩ : ∃ N, N = w.heap.size := ⟨_, rfl⟩
  rw [← hN] at HB ⊢
  have HN := hide hN
  clear hN
  have hbox := HB.out
  have q1 : ¬ 9223372036854775807 < A.size + min p s.size := by omega
  have q2 : ¬ 9223372036854775807 < A.size + min p s.size + 1 := by omega
  have q3 : ¬ 9223372036854775807 < A.size + min p s.size + 1 + (s.size - p) := by omega
  go_region_held3 (fun w' => w'.cell? ⟨N, 0, none⟩ = some (.bool n) ∧ w'.cell? ⟨N, 1, none⟩ = some (.string s) ∧ w'.cell? ⟨N, 2, none⟩ = some (.int .i64 x) ∧ Hid (Below N w w' ∧ N < w'.heap.size)) (first | assumption | exact BoxS.drew ‹_›)
    (first | (go_at_call 27; refine (cA.out _).mono ?_; rintro e w2 ⟨rfl, hB2⟩; have hS2 := BoxS.call ‹BoxS _ _ _ _ _ _› hB2))
  all_goals go_wp2
  all_goals (go_ret; exact ⟨rfl, by rw [← HN.out]; exact hS2.2.2.2.1⟩)

set_option maxHeartbeats 1000000 in
theorem ft_low (n : Bool) (s : ByteArray) (x pt : Int) (k : Nat) (w : World) (hs : s.size ≤ 1048576) (h0 : 0 < s.size) (hp : (s.size : Int) + x = pt) (hn : -pt = (k : Int)) (h1 : k ≤ 20) :
    Calls Tryd.prog 18 #[.agg #[.bool n, .string s, .int .i64 x]] w fun e w' => e = .returned (.string (str (sg n) ++ ⟨#[48, 46]⟩ ++ str (zs k) ++ s)) ∧ Below w.heap.size w w' := by
  obtain ⟨hE, hE2⟩ := toList_some s h0
  have hx0 : x < 0 := by omega
  have hx1 : -2000000 ≤ x := by omega
  have hx2 : x ≤ 20 := by omega
  have hk1 : (k : Int) ≤ 20 := by omega
  have hk2 : (0 : Int) ≤ k := by omega
  have hk3 : (-20 : Int) ≤ pt := by omega
  have hk4 : pt ≤ 0 := by omega
  have hwr : IntKind.i64.wrap (-pt) = (k : Int) := by rw [hn]; exact IntWalk.i64_in _ (by omega)
  clear hn
  have HB := hide (BoxS.new w n s x)
  obtain ⟨A, hA⟩ : ∃ A, A = str (sg n) := ⟨_, rfl⟩
  obtain ⟨Z, hZ⟩ : ∃ Z, Z = str (zs k) := ⟨_, rfl⟩
  have sA : A.size ≤ 1 := by rw [hA, str_size]; cases n <;> simp [sg]
  have sZ : Z.size ≤ 20 := by rw [hZ, str_size, zs_len]; exact h1
  have cA := hide (fun w => sign_any n s x w)
  have cZ := hide (fun w => repeat_any k w (by omega))
  rw [← hA] at cA
  rw [← hZ] at cZ
  rw [← hA, ← hZ]
  clear hA hZ
  go_enter Tryd.func18, Tryd.ntmps18
  go_wp2_with fail
  generalize (w.alloc (.cells #[.bool n, .string s, .int .i64 x] 28)) = wb at HB ⊢
  obtain ⟨N, hN⟩ : ∃ N, N = w.heap.size := ⟨_, rfl⟩
  rw [← hN] at HB ⊢
  have HN := hide hN
  clear hN
  have hbox := HB.out
  have q1 : ¬ 9223372036854775807 < A.size + 2 := by omega
  have q2 : ¬ 9223372036854775807 < A.size + 2 + Z.size := by omega
  have q3 : ¬ 9223372036854775807 < A.size + 2 + Z.size + s.size := by omega
  go_region_held3 (fun w' => w'.cell? ⟨N, 0, none⟩ = some (.bool n) ∧ w'.cell? ⟨N, 1, none⟩ = some (.string s) ∧ w'.cell? ⟨N, 2, none⟩ = some (.int .i64 x) ∧ Hid (Below N w w' ∧ N < w'.heap.size)) (first | assumption | exact BoxS.drew ‹_›)
    (first | (go_at_call 27; refine (cA.out _).mono ?_; rintro e w2 ⟨rfl, hB2⟩; have hS2 := BoxS.call ‹BoxS _ _ _ _ _ _› hB2) | (go_at_call 29; refine (cZ.out _).mono ?_; rintro e w3 ⟨rfl, hB3⟩; have hS3 := BoxS.call ‹BoxS _ _ _ _ _ _› hB3))
  all_goals go_wp2
  all_goals (go_ret; exact ⟨rfl, by rw [← HN.out]; exact hS3.2.2.2.1⟩)

theorem ft_zero (n : Bool) (x : Int) (w : World) (hx1 : -1073741824 ≤ x) (hx2 : x ≤ 1073741824) :
    Calls Tryd.prog 18 #[.agg #[.bool n, .string ⟨#[]⟩, .int .i64 x]] w fun e w' => e = .returned (.string ⟨#[48, 46, 48]⟩) ∧ Below w.heap.size w w' := by
  have hB := hide fun v => (Below.refl w.heap.size w).alloc (Nat.le_refl _) v
  go_enter Tryd.func18, Tryd.ntmps18
  go_wp2
  go_ret
  exact ⟨rfl, hB.out _⟩

/-- What the road reads of the library's variables. -/
structure Env (w : World) : Prop where
  tab : ∃ t fr, w.heap[5]? = some (.cells (Lib.pow10Tab.map fun z => Value.int .u64 z).toArray t fr)
  max : ∃ m, w.cell? ⟨0, 0, none⟩ = some (.int .i64 m)
  size : 6 ≤ w.heap.size
theorem Env.below {w w' : World} (h : Env w) (hb : Below w.heap.size w w') : Env w' := by
  have h6 := h.size
  refine ⟨?_, ?_, Nat.le_trans h.size hb.size⟩
  · obtain ⟨t, fr, e⟩ := h.tab
    exact ⟨t, fr, (hb.block 5 (by omega)).trans e⟩
  · obtain ⟨m, e⟩ := h.max
    exact ⟨m, (hb.cell (p := ⟨0, 0, none⟩) (by show 0 < _; omega)).trans e⟩
theorem tabIs_at {name : String} {w : World} (hg : Tryd.prog.globalNamed name = some 5) (h : Env w) : Lib.TabIs Tryd.prog w name .u64 Lib.pow10Tab := by
  obtain ⟨t, fr, e⟩ := h.tab
  unfold Lib.TabIs World.var?
  rw [hg]
  simp only [Option.bind_some, e]
theorem itoa_any (q : Int) (w : World) (h0 : -999999999 ≤ q) (h1 : q ≤ 999999999) (hE : Env w) :
    Calls Tryd.prog 28 #[.int .i64 q] w fun e w' => e = .returned (.string (str (Lib.itoa q))) ∧ Below w.heap.size w w' := by
  refine Calls.mono (Any.strconv_Itoa Tryd.laysM171 q (by omega) (by omega) w (tabIs_at (by kernel_rfl) hE)) ?_
  rintro e w' ⟨he, k, os, rfl⟩
  exact ⟨he, Lib.below_grow _ _ (Nat.le_refl _) k os⟩
theorem itoa_size (q : Int) (h0 : -999999999 ≤ q) (h1 : q ≤ 999999999) : (str (Lib.itoa q)).size ≤ 11 := by
  obtain ⟨T, h⟩ := itoa_exp q h0 h1
  rw [str_size, h.shape]
  have := h.len
  split
  · simp; omega
  · omega
theorem BoxS.env {w0 w1 : World} {N : Nat} {n : Bool} {s : ByteArray} {x : Int} (h : BoxS w0 N n s x w1) (hN : N = w0.heap.size) (hE : Env w0) : Env w1 := by
  subst hN
  exact hE.below h.2.2.2.1

set_option maxHeartbeats 1000000 in
theorem ft_sci (n : Bool) (s : ByteArray) (x pt : Int) (w : World) (hs : s.size ≤ 1048576) (h0 : 1 < s.size) (hx1 : -1073741824 ≤ x) (hx2 : x ≤ 1073741824) (hp : (s.size : Int) + x = pt) (hc : 20 < x ∨ pt < -20) (hq0 : -999999999 ≤ pt - 1) (hq1 : pt - 1 ≤ 999999999) (hE : Env w) :
    Calls Tryd.prog 18 #[.agg #[.bool n, .string s, .int .i64 x]] w fun e w' => e = .returned (.string (str (sg n) ++ (s.extract 0 1 ++ (⟨#[46]⟩ ++ s.extract 1 s.size)) ++ ⟨#[101]⟩ ++ str (Lib.itoa (pt - 1)))) ∧ Below w.heap.size w w' := by
  obtain ⟨hE1, hE2⟩ := toList_some s (by omega)
  have hz1 : (1 : Int) < s.size := by omega
  have hz2 : (1 : Int) ≤ s.size := by omega
  have hp1 : -2000000000 ≤ pt := by omega
  have hp2 : pt ≤ 2000000000 := by omega
  have HB := hide (BoxS.new w n s x)
  obtain ⟨A, hA⟩ : ∃ A, A = str (sg n) := ⟨_, rfl⟩
  obtain ⟨I, hI⟩ : ∃ I, I = str (Lib.itoa (pt - 1)) := ⟨_, rfl⟩
  have sA : A.size ≤ 1 := by rw [hA, str_size]; cases n <;> simp [sg]
  have sI : I.size ≤ 11 := by rw [hI]; exact itoa_size _ hq0 hq1
  have cA := hide (fun w => sign_any n s x w)
  have cI := hide (fun w hE => itoa_any (pt - 1) w hq0 hq1 hE)
  rw [← hA] at cA
  rw [← hI] at cI
  rw [← hA, ← hI]
  have HE := hide hE
  clear hA hI hE
  go_enter Tryd.func18, Tryd.ntmps18
  go_wp2_with fail
  all_goals (
    refine Calls.mono (cA.out _) ?_
    rintro e w2 ⟨rfl, hB2⟩
    have hS2 := hide (HB.out.call hB2)
    clear hB2
    go_wp2_with fail
    refine Calls.mono (cI.out _ (hS2.out.env rfl HE.out)) ?_
    rintro e w3 ⟨rfl, hB3⟩
    have hS3 := hide (hS2.out.call hB3)
    clear hB3
    go_wp2
    go_ret
    exact ⟨rfl, hS3.out.2.2.2.1⟩)

set_option maxHeartbeats 1000000 in
theorem ft_sci1 (n : Bool) (s : ByteArray) (x pt : Int) (w : World) (hs : s.size ≤ 1048576) (h0 : s.size = 1) (hx1 : -1073741824 ≤ x) (hx2 : x ≤ 1073741824) (hp : (s.size : Int) + x = pt) (hc : 20 < x ∨ pt < -20) (hq0 : -999999999 ≤ pt - 1) (hq1 : pt - 1 ≤ 999999999) (hE : Env w) :
    Calls Tryd.prog 18 #[.agg #[.bool n, .string s, .int .i64 x]] w fun e w' => e = .returned (.string (str (sg n) ++ s.extract 0 1 ++ ⟨#[101]⟩ ++ str (Lib.itoa (pt - 1)))) ∧ Below w.heap.size w w' := by
  obtain ⟨hE1, hE2⟩ := toList_some s (by omega)
  have hz1 : (s.size : Int) ≤ 1 := by omega
  have hz2 : (1 : Int) ≤ s.size := by omega
  have hp1 : -2000000000 ≤ pt := by omega
  have hp2 : pt ≤ 2000000000 := by omega
  clear h0
  have HB := hide (BoxS.new w n s x)
  obtain ⟨A, hA⟩ : ∃ A, A = str (sg n) := ⟨_, rfl⟩
  obtain ⟨I, hI⟩ : ∃ I, I = str (Lib.itoa (pt - 1)) := ⟨_, rfl⟩
  have sA : A.size ≤ 1 := by rw [hA, str_size]; cases n <;> simp [sg]
  have sI : I.size ≤ 11 := by rw [hI]; exact itoa_size _ hq0 hq1
  have cA := hide (fun w => sign_any n s x w)
  have cI := hide (fun w hE => itoa_any (pt - 1) w hq0 hq1 hE)
  rw [← hA] at cA
  rw [← hI] at cI
  rw [← hA, ← hI]
  have HE := hide hE
  clear hA hI hE
  go_enter Tryd.func18, Tryd.ntmps18
  go_wp2_with fail
  all_goals (
    refine Calls.mono (cA.out _) ?_
    rintro e w2 ⟨rfl, hB2⟩
    have hS2 := hide (HB.out.call hB2)
    clear hB2
    go_wp2_with fail
    refine Calls.mono (cI.out _ (hS2.out.env rfl HE.out)) ?_
    rintro e w3 ⟨rfl, hB3⟩
    have hS3 := hide (hS2.out.call hB3)
    clear hB3
    go_wp2
    go_ret
    exact ⟨rfl, hS3.out.2.2.2.1⟩)
end Go.Proofs.Qxb6606095aDoor
