import Derived.Test.Qxb6606095aDoorPlain
import Derived.Test.Qxb6606095aDoorShelf
import Derived.KernelRfl
import Derived.WalkKit
import Derived.WalkSpells
import Derived.WalkLawsBesides
import Derived.Handy
import Derived.Lib.UnsafeStr
import Derived.Deep.RegionHeld3
namespace Go.Proofs.Qxb6606095aDoor
open Go.RowKit
theorem hide {p : Prop} (h : p) : Hid p := h

theorem zzBytes_any (n : Bool) (s : ByteArray) (x : Int) (w : World) :
    Calls Tryd.prog 14 #[.bool n, .string s, .int .i64 x] w fun e w' => (∃ r, e = .returned (.bool r) ∧ (r = true → s.size ≤ 1048576)) ∧ w' = w := by
  by_cases h : s.size ≤ 1048576
  · have hz : (s.size : Int) ≤ 1048576 := by omega
    go_enter Tryd.func14, Tryd.ntmps14
    go_wp2
    go_ret
    exact ⟨⟨_, rfl, fun _ => h⟩, rfl⟩
  · have hz : 1048576 < (s.size : Int) := by omega
    go_enter Tryd.func14, Tryd.ntmps14
    go_wp2
    go_ret
    exact ⟨⟨_, rfl, fun h => by cases h⟩, rfl⟩

theorem isDigit_any (c : UInt8) (w : World) :
    Calls Tryd.prog 17 #[.int .u8 c.toNat] w fun e w' => e = .returned (.bool (decide (48 ≤ c.toNat ∧ c.toNat ≤ 57))) ∧ w' = w := by
  by_cases h : 48 ≤ c.toNat
  · have hz : 48 ≤ (c.toNat : Int) := by omega
    by_cases h2 : c.toNat ≤ 57
    · have hz2 : (c.toNat : Int) ≤ 57 := by omega
      have H := hide (⟨h, h2⟩ : _ ∧ _)
      rw [decide_eq_true H.out]
      go_enter Tryd.func17, Tryd.ntmps17
      go_wp2
      go_ret
      exact ⟨by first | rfl | (simp; omega), rfl⟩
    · have hz2 : 57 < (c.toNat : Int) := by omega
      have H := hide h2
      rw [decide_eq_false (fun h => H.out h.2)]
      go_enter Tryd.func17, Tryd.ntmps17
      go_wp2
      go_ret
      exact ⟨by first | rfl | (simp; omega), rfl⟩
  · have hz : (c.toNat : Int) < 48 := by omega
    have H := hide h
    rw [decide_eq_false (fun h => H.out h.1)]
    go_enter Tryd.func17, Tryd.ntmps17
    go_wp2
    go_ret
    exact ⟨by first | rfl | (simp; omega), rfl⟩

theorem bytes_getElem (s : ByteArray) (j : Nat) (h : j < s.size) : s.data.toList[j]'(by rw [Array.length_toList]; exact h) = s[j] := by
  simp [ByteArray.getElem_eq_getElem_data]

theorem canon_of (s : ByteArray) (h0 : 0 < s.size) (h1 : (s[0]'h0).toNat ≠ 48) (h2 : (s[s.size - 1]'(by omega)).toNat ≠ 48) (hd : ∀ j (h : j < s.size), 48 ≤ (s[j]'h).toNat ∧ (s[j]'h).toNat ≤ 57) : Canon s.data.toList := by
  have hlen : s.data.toList.length = s.size := by rw [Array.length_toList]; rfl
  have hne : s.data.toList ≠ [] := fun e => by rw [e] at hlen; simp at hlen; omega
  have ne48 : ∀ c : UInt8, c.toNat ≠ 48 → c ≠ 48 := fun c h e => by rw [e] at h; exact h rfl
  refine ⟨?_, ?_, ?_⟩
  · intro x hx
    obtain ⟨j, hj, rfl⟩ := List.getElem_of_mem hx
    rw [bytes_getElem s j (by omega)]
    exact hd j (by omega)
  · refine ⟨s.data.toList.head hne, s.data.toList.tail, (List.cons_head_tail hne).symm, ?_⟩
    rw [List.head_eq_getElem, bytes_getElem s 0 h0]
    exact ne48 _ h1
  · refine ⟨s.data.toList.dropLast, s.data.toList.getLast hne, (List.dropLast_concat_getLast hne).symm, ?_⟩
    rw [List.getLast_eq_getElem]
    simp only [hlen]
    rw [bytes_getElem s (s.size - 1) (by omega)]
    exact ne48 _ h2

theorem toList_empty (s : ByteArray) (h : ¬ 0 < s.size) : s = ⟨#[]⟩ := by
  apply ByteArray.ext
  apply Array.eq_empty_of_size_eq_zero
  have : s.data.size = s.size := rfl
  omega
theorem toList_some (s : ByteArray) (h : 0 < s.size) : s.toList.isEmpty = false ∧ ¬ s.toList = [] := by
  have hlen : s.data.toList.length = s.size := by rw [Array.length_toList]; rfl
  rw [ByteArray.toList_eq]
  cases e : s.data.toList with
  | nil => rw [e] at hlen; simp at hlen; omega
  | cons a r => simp

/-- What CanonicalCoef says. -/
def CanonSays (s : ByteArray) (e : Ending) : Prop := ∃ r, e = .returned (.bool r) ∧ (r = true → Canon s.data.toList)
set_option maxHeartbeats 400000 in
theorem canon_any (s : ByteArray) (w : World) (hs : s.size ≤ 1048576) :
    Calls Tryd.prog 15 #[.string s] w fun e w' => CanonSays s e ∧ w' = w := by
  by_cases h0 : 0 < s.size
  · obtain ⟨hE, hE2⟩ := toList_some s h0
    have hz1 : (1 : Int) ≤ s.size := by omega
    have hz2 : (s.size : Int) - 1 < s.size := by omega
    by_cases h1 : ((s[0]'h0).toNat : Int) = 48
    · go_enter Tryd.func15, Tryd.ntmps15
      go_wp2
      all_goals (go_ret; exact ⟨⟨_, rfl, fun h => by simp at h⟩, rfl⟩)
    · by_cases h2 : ((s[s.size - 1]'(by omega)).toNat : Int) = 48
      · have h1b : (((s[0]'h0).toNat : Int) == 48) = false := beq_eq_false_iff_ne.2 h1
        go_enter Tryd.func15, Tryd.ntmps15
        go_wp2
        all_goals (go_ret; exact ⟨⟨_, rfl, fun h => by simp at h⟩, rfl⟩)
      · have h1b : (((s[0]'h0).toNat : Int) == 48) = false := beq_eq_false_iff_ne.2 h1
        have h2b : (((s[s.size - 1]'(by omega)).toNat : Int) == 48) = false := beq_eq_false_iff_ne.2 h2
        have H1 := hide h1
        have H2 := hide h2
        clear h1 h2
        go_enter Tryd.func15, Tryd.ntmps15
        go_wp2_with fail
        go_loop [3] (fun i => ∃ k : Nat, k ≤ s.size ∧ i = .int .i64 k ∧ ∀ j (h : j < s.size), j < k → 48 ≤ (s[j]'h).toNat ∧ (s[j]'h).toNat ≤ 57) (fun i => s.size - (intOf i).toNat)
        case atStart => exact ⟨0, by omega, rfl, fun j _ h => by omega⟩
        case round =>
          obtain ⟨k, hk, rfl, hno⟩ := hrel
          have HN := hide hno
          clear hno
          by_cases hlt : k < s.size
          · have hltz : (k : Int) < s.size := by omega
            have hd := isDigit_any (s[k]'hlt)
            by_cases hD : 48 ≤ (s[k]'hlt).toNat ∧ (s[k]'hlt).toNat ≤ 57
            · have HD := hide hD
              rw [decide_eq_true hD] at hd
              have Hd := hide hd
              clear hD hd
              go_wp2_with (go_at_call 17; refine Calls.mono (Hd.out _) ?_; rintro e w2 ⟨rfl, hw⟩; rw [hw])
              go_round
              case rel =>
                refine ⟨k + 1, by omega, by go_num, fun j hj hjk => ?_⟩
                by_cases e : j = k
                · subst e; exact HD.out
                · exact HN.out j hj (by omega)
              case measure => simp [intOf]; omega
            · rw [decide_eq_false hD] at hd
              have Hd := hide hd
              clear hD hd
              go_wp2_with (go_at_call 17; refine Calls.mono (Hd.out _) ?_; rintro e w2 ⟨rfl, hw⟩; rw [hw])
              go_ret
              exact ⟨⟨_, rfl, fun h => by cases h⟩, rfl⟩
          · have e : k = s.size := by omega
            have HK := hide e
            have hltz : (s.size : Int) ≤ k := by omega
            go_wp2
            go_ret
            exact ⟨⟨_, rfl, fun _ => canon_of s h0 (by have := H1.out; omega) (by have := H2.out; omega) fun j hj => HN.out j hj (by have := HK.out; omega)⟩, rfl⟩
  · obtain rfl := toList_empty s h0
    go_enter Tryd.func15, Tryd.ntmps15
    go_wp2
    go_ret
    exact ⟨⟨_, rfl, fun h => by cases h⟩, rfl⟩

set_option maxHeartbeats 400000 in
theorem allDigits_any (s : ByteArray) (w : World) (hs : s.size ≤ 3000000) (h0 : 0 < s.size) (hd : ∀ j (h : j < s.size), 48 ≤ (s[j]'h).toNat ∧ (s[j]'h).toNat ≤ 57) :
    Calls Tryd.prog 23 #[.string s] w fun e w' => e = .returned (.bool true) ∧ w' = w := by
  obtain ⟨hE, hE2⟩ := toList_some s h0
  have HD := hide hd
  clear hd
  go_enter Tryd.func23, Tryd.ntmps23
  go_wp2_with fail
  go_loop [3] (fun i => ∃ k : Nat, k ≤ s.size ∧ i = .int .i64 k) (fun i => s.size - (intOf i).toNat)
  case atStart => exact ⟨0, by omega, rfl⟩
  case round =>
    obtain ⟨k, hk, rfl⟩ := hrel
    by_cases hlt : k < s.size
    · have hltz : (k : Int) < s.size := by omega
      have hz1 : 48 ≤ ((s[k]'hlt).toNat : Int) := by have := (HD.out k hlt).1; omega
      have hz2 : ((s[k]'hlt).toNat : Int) ≤ 57 := by have := (HD.out k hlt).2; omega
      go_wp2
      go_round
      case rel => exact ⟨k + 1, by omega, by go_num⟩
      case measure => simp [intOf]; omega
    · have hltz : (s.size : Int) ≤ k := by omega
      go_wp2
      go_ret
      exact ⟨by simp [*], rfl⟩
end Go.Proofs.Qxb6606095aDoor
