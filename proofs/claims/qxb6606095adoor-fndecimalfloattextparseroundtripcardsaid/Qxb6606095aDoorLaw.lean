import Derived.Test.Qxb6606095aDoorRound
namespace Go.Proofs.Qxb6606095aDoor
open Go.RowKit
theorem chain {a b c : World} (h : Below a.heap.size a b) (k : Below b.heap.size b c) : Below a.heap.size a c := h.trans (k.mono h.size)

theorem zzft (n : Bool) (s : ByteArray) (x : Int) (T : ByteArray) (h : Writes n s x T) (w : World) (hE : Env w) :
    Calls Tryd.prog 12 #[.bool n, .string s, .int .i64 x] w fun e w' => e = .returned (.string T) ∧ Below w.heap.size w w' := by
  have H := hide h
  have HE := hide hE
  clear h hE
  go_enter Tryd.func12, Tryd.ntmps12
  go_wp2_with fail
  refine Calls.mono (H.out _ HE.out) ?_
  rintro e w1 ⟨rfl, hB⟩
  have HB := hide hB
  clear hB
  go_wp2
  go_ret
  exact ⟨rfl, HB.out⟩

set_option maxHeartbeats 400000 in
theorem zzparse (T : ByteArray) (v0 : Bool) (v1 : ByteArray) (v2 : Int) (h : Reads T v0 v1 v2) (w : World) (hE : Env w) :
    Calls Tryd.prog 8 #[.string T] w fun e w' => e = .returned (.tuple #[.bool v0, .string v1, .int .i64 v2, .bool true]) ∧ Below w.heap.size w w' := by
  have H := hide h
  have HE := hide hE
  clear h hE
  go_enter Tryd.func8, Tryd.ntmps8
  go_wp2_with fail
  refine Calls.mono (H.out _ HE.out) ?_
  rintro e w1 ⟨rfl, hB⟩
  have HB := hide (hB.trans (((Below.refl w1.heap.size w1).alloc (Nat.le_refl _) (.cells #[.bool v0, .string v1, .int .i64 v2] 28)).drew.mono hB.size))
  clear hB
  go_wp2_with fail
  go_region
  go_wp2
  refine bodyPost_ret (v := .tuple #[.bool v0, .string v1, .int .i64 v2, .bool true]) (by simp [results, Tryd.results8, go_sem]) rfl ⟨rfl, ?_⟩
  exact HB.out

theorem bytes_str (s : ByteArray) : str s.data.toList = s := (str_eq s).symm
theorem bytes_len (s : ByteArray) : s.data.toList.length = s.size := by rw [Array.length_toList]; rfl

set_option maxHeartbeats 1000000 in
/-- The whole road, where the text is written and read. -/
theorem law_road (n : Bool) (s : ByteArray) (x : Int) (w : World) (hE : Env w) (hs : s.size ≤ 1048576) (h0 : 0 < s.size) (hx1 : -1073741824 ≤ x) (hx2 : x ≤ 1073741824) :
    Calls Tryd.prog 6 #[.bool n, .string s, .int .i64 x] w fun e w' => e = .returned (.bool true) ∧ Below w.heap.size w w' := by
  obtain ⟨hE1, hE2⟩ := toList_some s h0
  have z0 : (s.size : Int) ≤ 1048576 := by omega
  have HE := hide hE
  have HB := hide (Below.refl w.heap.size w)
  have cB := hide (fun w => zzBytes_any n s x w)
  have cC := hide (fun w => canon_any s w hs)
  clear hE
  go_enter Tryd.func6, Tryd.ntmps6
  go_wp2_with fail
  refine Calls.mono (cB.out _) ?_
  rintro e w1 ⟨⟨r, rfl, _⟩, hw1⟩
  rw [hw1]
  clear hw1
  cases r
  · go_wp2
    go_ret
    exact ⟨rfl, HB.out⟩
  · go_wp2_with fail
    refine Calls.mono (cC.out _) ?_
    rintro e w2 ⟨⟨r, rfl, hr⟩, hw2⟩
    rw [hw2]
    clear hw2
    cases r
    · clear hr
      go_wp2
      go_ret
      exact ⟨rfl, HB.out⟩
    · have HC := hide (hr rfl)
      clear hr
      have hsum1 : (s.size : Int) + x ≤ 2000000000 := by omega
      have hsum2 : -2000000000 ≤ (s.size : Int) + x := by omega
      by_cases hq : (s.size : Int) + x - 1 ≤ 999999999 ∧ -999999999 ≤ (s.size : Int) + x - 1
      · obtain ⟨hq1, hq2⟩ := hq
        obtain ⟨T, hTs, hWr, hRd⟩ := round n s.data.toList x HC.out (by rw [bytes_len]; exact hs) hx1 hx2 (by rw [bytes_len]; omega) (by rw [bytes_len]; omega)
        rw [bytes_str] at hWr hRd
        have HW := hide hWr
        have HR := hide hRd
        clear hWr hRd
        go_wp2_with fail
        refine Calls.mono (zzft n s x T HW.out _ HE.out) ?_
        rintro e w3 ⟨rfl, hB3⟩
        have HB3 := hide hB3
        have HE3 := hide (HE.out.below hB3)
        clear hB3
        go_wp2_with fail
        refine Calls.mono (zzparse T n s x HR.out _ HE3.out) ?_
        rintro e w4 ⟨rfl, hB4⟩
        have HB4 := hide (chain HB3.out hB4)
        clear hB4
        go_wp2
        go_ret
        exact ⟨rfl, HB4.out⟩
      · have hq' : 999999999 < (s.size : Int) + x - 1 ∨ (s.size : Int) + x - 1 < -999999999 := by omega
        clear hq
        go_wp2
        all_goals (go_ret; exact ⟨rfl, HB.out⟩)

set_option maxHeartbeats 1000000 in
theorem law_zero (w : World) (hE : Env w) :
    Calls Tryd.prog 6 #[.bool false, .string ⟨#[]⟩, .int .i64 0] w fun e w' => e = .returned (.bool true) ∧ Below w.heap.size w w' := by
  have HE := hide hE
  have HB := hide (Below.refl w.heap.size w)
  have cB := hide (fun w => zzBytes_any false ⟨#[]⟩ 0 w)
  obtain ⟨T, hTs, hWr, hRd⟩ := round_zero
  rw [show str [] = ⟨#[]⟩ from rfl] at hWr hRd
  have HW := hide hWr
  have HR := hide hRd
  clear hWr hRd hE
  go_enter Tryd.func6, Tryd.ntmps6
  go_wp2_with fail
  refine Calls.mono (cB.out _) ?_
  rintro e w1 ⟨⟨r, rfl, _⟩, hw1⟩
  rw [hw1]
  clear hw1
  cases r
  · go_wp2
    go_ret
    exact ⟨rfl, HB.out⟩
  · go_wp2_with fail
    refine Calls.mono (zzft false ⟨#[]⟩ 0 T HW.out _ HE.out) ?_
    rintro e w3 ⟨rfl, hB3⟩
    have HB3 := hide hB3
    have HE3 := hide (HE.out.below hB3)
    clear hB3
    go_wp2_with fail
    refine Calls.mono (zzparse T false ⟨#[]⟩ 0 HR.out _ HE3.out) ?_
    rintro e w4 ⟨rfl, hB4⟩
    have HB4 := hide (chain HB3.out hB4)
    clear hB4
    go_wp2
    go_ret
    exact ⟨rfl, HB4.out⟩

set_option maxHeartbeats 400000 in
theorem law_long (n : Bool) (s : ByteArray) (x : Int) (w : World) (hs : ¬ s.size ≤ 1048576) :
    Calls Tryd.prog 6 #[.bool n, .string s, .int .i64 x] w fun e w' => e = .returned (.bool true) ∧ Below w.heap.size w w' := by
  have HB := hide (Below.refl w.heap.size w)
  have cB := hide (fun w => zzBytes_any n s x w)
  go_enter Tryd.func6, Tryd.ntmps6
  go_wp2_with fail
  refine Calls.mono (cB.out _) ?_
  rintro e w1 ⟨⟨r, rfl, hr⟩, hw1⟩
  rw [hw1]
  clear hw1
  cases r
  · clear hr
    go_wp2
    go_ret
    exact ⟨rfl, HB.out⟩
  · exact absurd (hr rfl) hs

set_option maxHeartbeats 400000 in
theorem law_far (n : Bool) (s : ByteArray) (x : Int) (w : World) (hs : s.size ≤ 1048576) (hx : 1073741824 < x ∨ x < -1073741824) :
    Calls Tryd.prog 6 #[.bool n, .string s, .int .i64 x] w fun e w' => e = .returned (.bool true) ∧ Below w.heap.size w w' := by
  have z0 : (s.size : Int) ≤ 1048576 := by omega
  have HB := hide (Below.refl w.heap.size w)
  have cB := hide (fun w => zzBytes_any n s x w)
  go_enter Tryd.func6, Tryd.ntmps6
  go_wp2_with fail
  refine Calls.mono (cB.out _) ?_
  rintro e w1 ⟨⟨r, rfl, hr⟩, hw1⟩
  rw [hw1]
  clear hw1 hr
  cases r
  · go_wp2
    go_ret
    exact ⟨rfl, HB.out⟩
  · rcases hx with h | h
    · go_wp2
      all_goals (go_ret; exact ⟨rfl, HB.out⟩)
    · have h' : x ≤ 1073741824 := by omega
      go_wp2
      all_goals (go_ret; exact ⟨rfl, HB.out⟩)

set_option maxHeartbeats 400000 in
theorem law_empty (n : Bool) (x : Int) (w : World) (hx1 : -1073741824 ≤ x) (hx2 : x ≤ 1073741824) (hx : n = true ∨ x ≠ 0) :
    Calls Tryd.prog 6 #[.bool n, .string ⟨#[]⟩, .int .i64 x] w fun e w' => e = .returned (.bool true) ∧ Below w.heap.size w w' := by
  have HB := hide (Below.refl w.heap.size w)
  have cB := hide (fun w => zzBytes_any n ⟨#[]⟩ x w)
  go_enter Tryd.func6, Tryd.ntmps6
  go_wp2_with fail
  refine Calls.mono (cB.out _) ?_
  rintro e w1 ⟨⟨r, rfl, hr⟩, hw1⟩
  rw [hw1]
  clear hw1 hr
  cases r
  · go_wp2
    go_ret
    exact ⟨rfl, HB.out⟩
  · cases n
    · have hx0 : x ≠ 0 := by rcases hx with h | h; · cases h
                             · exact h
      have hxb : (x == 0) = false := beq_eq_false_iff_ne.2 hx0
      clear hx
      go_wp2
      all_goals (go_ret; exact ⟨rfl, HB.out⟩)
    · clear hx
      go_wp2
      all_goals (go_ret; exact ⟨rfl, HB.out⟩)

theorem law (n : Bool) (s : ByteArray) (x : Int) (w : World) (hE : Env w) :
    Calls Tryd.prog 6 #[.bool n, .string s, .int .i64 x] w fun e w' => e = .returned (.bool true) ∧ Below w.heap.size w w' := by
  by_cases hs : s.size ≤ 1048576
  · by_cases hx : 1073741824 < x ∨ x < -1073741824
    · exact law_far n s x w hs hx
    · by_cases h0 : 0 < s.size
      · exact law_road n s x w hE hs h0 (by omega) (by omega)
      · obtain rfl := toList_empty s h0
        by_cases hn : n = true ∨ x ≠ 0
        · exact law_empty n x w (by omega) (by omega) hn
        · have hx0 : x = 0 := Decidable.not_not.1 fun h => hn (.inr h)
          have hn0 : n = false := by
            cases n
            · rfl
            · exact absurd (.inl rfl) hn
          subst hx0
          subst hn0
          exact law_zero w hE
  · exact law_long n s x w hs
end Go.Proofs.Qxb6606095aDoor
