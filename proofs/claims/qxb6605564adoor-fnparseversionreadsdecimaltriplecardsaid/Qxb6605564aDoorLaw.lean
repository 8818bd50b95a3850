import Derived.Test.Qxb6605564aDoorUtoa
import Derived.Test.Qxb6605564aDoorShelf
import Derived.Lib.UnsafeStr
namespace Go.Proofs.Qxb6605564aDoor
open Go.RowKit

theorem info9 : (Tryd.prog.info? 9).map (fun i => (i.zero, i.size, i.bytes)) = some (some (.string ByteArray.empty), 1, 16) := by kernel_rfl
theorem info23 : (Tryd.prog.info? 23).map (fun i => (i.zero, i.size, i.bytes)) = some (some (.int .u64 0), 1, 8) := by kernel_rfl

/-- The k-th of three. -/
def nth (a b c k : Nat) : Nat := match k with | 0 => a | 1 => b | _ => c
/-- The first k of three, as cells. -/
def vals (a b c k : Nat) : List Value := [.int .u64 a, .int .u64 b, .int .u64 c].take k
theorem vals_succ (a b c k : Nat) (h : k < 3) : vals a b c (k + 1) = vals a b c k ++ [.int .u64 (nth a b c k)] := by
  match k, h with
  | 0, _ => rfl
  | 1, _ => rfl
  | 2, _ => rfl
/-- strings.Split of the version's text. -/
theorem split_ver (a b c : Nat) (w : World) (ha : a < two64) (hb : b < two64) (hc : c < two64) (hm : ∃ m, w.cell? ⟨2, 0, none⟩ = some (.int .i64 m)) :
    Calls Tryd.prog 10 #[.string (str (ver a b c)), .string dot] w fun e w' => e = .returned (.slice (some ⟨w.heap.size, 0, none⟩) 3 3) ∧ w' = w.alloc (.cells #[.string (str (utoa a)), .string (str (utoa b)), .string (str (utoa c))] 9) := by
  obtain ⟨m, hm⟩ := hm
  have hsz : (str (ver a b c)).size < 4294967281 := by
    rw [str_size]
    have := (utoa_len a ha).2; have := (utoa_len b hb).2; have := (utoa_len c hc).2
    unfold ver
    simp
    omega
  have h := Any.strings_Split Tryd.lays146 info9 (str (ver a b c)) dot m w hsz hm (by decide)
  rw [(ver_split a b c).1, (ver_split a b c).2] at h
  exact h

/-- strconv.ParseUint of one number's text. -/
theorem parse_one (n : Nat) (w : World) (hn : n < two64) :
    Calls Tryd.prog 11 #[.string (str (utoa n)), .int .i64 10, .int .i64 64] w fun e w' => e = .returned (.tuple #[.int .u64 n, .nilIface]) ∧ Below w.heap.size w w' := by
  have hl := (utoa_len n hn).2
  refine Calls.mono (Any.strconv_ParseUint_10_at64_ok Tryd.laysPu14 (str (utoa n)) (by rw [str_size]; omega) n (by rw [str_data]; exact parse_utoa n hn) w) ?_
  rintro e w' ⟨he, hw⟩
  refine ⟨he, ?_⟩
  rcases hw with rfl | rfl
  · exact Below.refl _ _
  · exact Lib.below_freeze (((Below.refl _ _).drew).alloc (Nat.le_refl _) _) (Nat.le_refl _) _

theorem one_new (wr : World) (v : Value) : ∀ (j : Nat) (u : Value), [v][j]? = some u → (wr.alloc (.cells #[v] 23)).cell? ((⟨wr.heap.size, 0, none⟩ : Addr).add j) = some u := fun j u hj => by
  match j, hj with
  | 0, hj => simp at hj; subst hj; simp [Addr.add]
theorem one_cell (k : IntKind) (z : Int) : ∀ u ∈ [Value.int k z], u.oneCell' = true := fun u hu => by simp at hu; subst hu; rfl
theorem ownsRow_below {w w' : World} {base g n cap : Nat} {e : TypeId} {xs : List Value} (h : w.ownsRow base e 1 (.slice (some ⟨g, 0, none⟩) n cap) n xs) (hb : Below w.heap.size w w') : w'.ownsRow base e 1 (.slice (some ⟨g, 0, none⟩) n cap) n xs :=
  h.kept (row := none) ⟨hb.os, hb.tape, hb.output, hb.size, fun k hk _ => hb.block k hk⟩ (.inr (by simp [Value.ownBlock]))
theorem after_append {wr w2 w : World} {nb k cap : Nat} {xs : List Value} {v : Value} (ho : w2.ownsRow nb 23 1 (.slice (some ⟨nb, 0, none⟩) (k + 1) cap) (k + 1) (xs ++ [v]))
    (hg : (wr.alloc (.cells #[v] 23)).grownBy w2 (some nb)) (hn : nb < wr.heap.size) (hb : Below nb w wr) :
    w2.ownsRow nb 23 1 (.slice (some ⟨nb, 0, none⟩) (k + 1) cap) (k + 1) (xs ++ [v]) ∧ Below nb w w2 ∧ nb < w2.heap.size := by
  refine ⟨ho, (hb.alloc (by omega) _).grown hg (by simp; omega) (fun k hk => by cases hk; exact Nat.le_refl _), ?_⟩
  have := hg.size
  simp at this
  omega

set_option maxHeartbeats 1000000 in
set_option maxRecDepth 100000 in
theorem parse_ver (a b c : Nat) (w : World) (ha : a < two64) (hb : b < two64) (hc : c < two64) (hm : ∃ m, w.cell? ⟨2, 0, none⟩ = some (.int .i64 m)) :
    Calls Tryd.prog 9 #[.string (str (ver a b c))] w fun e w' => ∃ nb, e = .returned (.tuple #[.slice (some ⟨nb, 0, none⟩) 3 3, .bool true]) ∧ w'.cell? ⟨nb, 0, none⟩ = some (.int .u64 a) ∧ w'.cell? ⟨nb, 1, none⟩ = some (.int .u64 b) ∧ w'.cell? ⟨nb, 2, none⟩ = some (.int .u64 c) ∧ Below w.heap.size w w' := by
  have hmk : ∀ W : World, (Instr.makeSlice 26 (.int .i64 0) (.int .i64 3)).run Tryd.prog W = .ok (.slice (some ⟨W.heap.size, 0, none⟩) 0 3) (W.alloc (.cells #[.int .u64 0, .int .u64 0, .int .u64 0] 23)) := fun _ => by kernel_rfl
  obtain ⟨i0, hi23, _, hz23, _⟩ := info_parts info23
  go_enter Tryd.func9, Tryd.ntmps9
  go_wp2_with fail
  refine (split_ver a b c _ ha hb hc hm).mono ?_
  rintro e w1 ⟨rfl, hw1⟩
  have hpc : ∀ k, k < 3 → w1.cell? ⟨w.heap.size, k, none⟩ = some (.string (str (utoa (nth a b c k)))) := fun k hk => by
    rw [hw1, World.cell?_alloc_at _ _ _ _ rfl]
    match k, hk with
    | 0, _ => rfl
    | 1, _ => rfl
    | 2, _ => rfl
  have hL1 : Below w.heap.size w w1 := by rw [hw1]; exact (Below.refl _ _).alloc (Nat.le_refl _) _
  have hs1 : w.heap.size < w1.heap.size := by rw [hw1]; simp
  have HP := hide hpc
  have HL1 := hide hL1
  have hab := hide (⟨ha, hb, hc⟩ : a < two64 ∧ b < two64 ∧ c < two64)
  clear hw1 hpc hL1 hm ha hb hc
  go_wp2_with fail
  have hmade := World.ownsRow_made (base := w1.heap.size) (e := 23) (size := 1) w1 #[.int .u64 0, .int .u64 0, .int .u64 0] 3 (Nat.le_refl _) (by unfold maxLen; omega) rfl
  go_loopw [5, 20] (fun v kv wr => ∃ k : Nat, k ≤ 3 ∧ kv = .int .i64 k ∧ v = .slice (some ⟨w1.heap.size, 0, none⟩) k 3 ∧ wr.ownsRow w1.heap.size 23 1 (.slice (some ⟨w1.heap.size, 0, none⟩) k 3) k (vals a b c k) ∧ Below w1.heap.size w1 wr ∧ w1.heap.size < wr.heap.size) (fun _ kv _ => 3 - (intOf kv).toNat)
  case atStart => exact ⟨0, by omega, rfl, rfl, hmade, (Below.refl _ _).alloc (Nat.le_refl _) _, by simp⟩
  case round =>
    obtain ⟨k, hk, rfl, rfl, hown, hbel, hsz⟩ := hrel
    have HO := hide hown
    have HB := hide hbel
    clear hown hbel hmade hmk
    by_cases hk3 : k < 3
    · have hkz : (k : Int) < 3 := by omega
      have hpk := (HB.out.cell (p := ⟨w.heap.size, k, none⟩) hs1).trans (HP.out k hk3)
      obtain ⟨nk, hnk⟩ : ∃ nk, nk = nth a b c k := ⟨_, rfl⟩
      have hn64 : nk < two64 := by
        rw [hnk]; unfold nth
        split
        · exact hab.out.1
        · exact hab.out.2.1
        · exact hab.out.2.2
      rw [← hnk] at hpk
      obtain ⟨sp, hsp⟩ : ∃ sp, sp = str (utoa nk) := ⟨_, rfl⟩
      rw [← hsp] at hpk
      have hpo := hide (parse_one nk)
      rw [← hsp] at hpo
      have hlen := utoa_len nk hn64
      rw [← str_size, ← hsp] at hlen
      have HK := hide hnk
      have HS := hide hsp
      have H64 := hide hn64
      have hl1 := hlen.1
      have hl2 := hlen.2
      clear hnk hsp hn64 hlen
      by_cases hlong : 1 < sp.size
      · have hlz : (1 : Int) < (sp.size : Int) := by omega
        have hlead : ((sp[0]'(by omega)).toNat : Int) ≠ 48 := by
          have hU := HS.out
          subst hU
          obtain ⟨c0, r, hcr, hne⟩ := utoa_lead nk H64.out (by rw [str_size] at hlong; exact hlong)
          rw [str_getElem, hcr]
          intro e
          refine hne (UInt8.toNat.inj ?_)
          have h48 : (48 : UInt8).toNat = 48 := rfl
          rw [h48]
          simp [List.getD] at e
          omega
        have hleadb : (((sp[0]'(by omega)).toNat : Int) == 48) = false := beq_eq_false_iff_ne.2 hlead
        clear hlead
        go_wp2_with fail
        refine Calls.mono (hpo.out wr H64.out) ?_
        rintro e w2 ⟨rfl, L2⟩
        have HO2 := hide (ownsRow_below HO.out L2)
        have HB2 := hide (HB.out.trans (L2.mono (Nat.le_of_lt hsz)))
        have hsz2 : w1.heap.size < w2.heap.size := Nat.lt_of_lt_of_le hsz L2.size
        have HOA := hide (HO2.out.alloc (.cells #[.int .u64 nk] 23))
        have hcn := hide (one_new w2 (.int .u64 nk))
        clear L2
        go_wp2_with (at_builtin; refine wpList_append_fits _ rfl (.tmp 39) (.tmp 41) 26 rfl w1.heap.size 23 i0 1 Tryd.underlying26 hi23 hz23 w1.heap.size k 3 (vals a b c k) rfl HOA.out ⟨w2.heap.size, 0, none⟩ 1 1 [.int .u64 nk] rfl rfl hcn.out (one_cell _ _) (by omega) ?_; intro w3 hown3 hgrow3)
        have HA := hide (after_append hown3 hgrow3 hsz2 HB2.out)
        clear hown3 hgrow3
        go_roundw
        case rel => exact ⟨k + 1, by omega, by go_num, rfl, by rw [vals_succ a b c k hk3, ← HK.out]; exact HA.out.1, HA.out.2.1, HA.out.2.2⟩
        case measure => simp [intOf]; omega
      · have hlz : (sp.size : Int) ≤ 1 := by omega
        go_wp2_with fail
        refine Calls.mono (hpo.out wr H64.out) ?_
        rintro e w2 ⟨rfl, L2⟩
        have HO2 := hide (ownsRow_below HO.out L2)
        have HB2 := hide (HB.out.trans (L2.mono (Nat.le_of_lt hsz)))
        have hsz2 : w1.heap.size < w2.heap.size := Nat.lt_of_lt_of_le hsz L2.size
        have HOA := hide (HO2.out.alloc (.cells #[.int .u64 nk] 23))
        have hcn := hide (one_new w2 (.int .u64 nk))
        clear L2
        go_wp2_with (at_builtin; refine wpList_append_fits _ rfl (.tmp 39) (.tmp 41) 26 rfl w1.heap.size 23 i0 1 Tryd.underlying26 hi23 hz23 w1.heap.size k 3 (vals a b c k) rfl HOA.out ⟨w2.heap.size, 0, none⟩ 1 1 [.int .u64 nk] rfl rfl hcn.out (one_cell _ _) (by omega) ?_; intro w3 hown3 hgrow3)
        have HA := hide (after_append hown3 hgrow3 hsz2 HB2.out)
        clear hown3 hgrow3
        go_roundw
        case rel => exact ⟨k + 1, by omega, by go_num, rfl, by rw [vals_succ a b c k hk3, ← HK.out]; exact HA.out.1, HA.out.2.1, HA.out.2.2⟩
        case measure => simp [intOf]; omega
    · obtain rfl : k = 3 := by omega
      have hc0 := HO.out.cellAt 0 (by omega)
      have hc1 := HO.out.cellAt 1 (by omega)
      have hc2 := HO.out.cellAt 2 (by omega)
      have HC := hide (⟨hc0, hc1, hc2⟩ : _ ∧ _ ∧ _)
      have HBf := hide (HL1.out.trans (HB.out.mono HL1.out.size))
      clear hc0 hc1 hc2
      go_wp2
      go_ret2
      exact ⟨w1.heap.size, rfl, HC.out.1, HC.out.2.1, HC.out.2.2, HBf.out⟩

set_option maxHeartbeats 400000 in
theorem zzparse_ver (a b c : Nat) (w : World) (ha : a < two64) (hb : b < two64) (hc : c < two64) (hm : ∃ m, w.cell? ⟨2, 0, none⟩ = some (.int .i64 m)) :
    Calls Tryd.prog 7 #[.string (str (ver a b c))] w fun e w' => ∃ nb, e = .returned (.tuple #[.slice (some ⟨nb, 0, none⟩) 3 3, .bool true]) ∧ w'.cell? ⟨nb, 0, none⟩ = some (.int .u64 a) ∧ w'.cell? ⟨nb, 1, none⟩ = some (.int .u64 b) ∧ w'.cell? ⟨nb, 2, none⟩ = some (.int .u64 c) ∧ Below w.heap.size w w' := by
  go_enter Tryd.func7, Tryd.ntmps7
  go_wp2_with fail
  refine (parse_ver a b c _ ha hb hc hm).mono ?_
  rintro e w1 ⟨nb, rfl, h0, h1, h2, hB⟩
  have H := hide (⟨h0, h1, h2, hB⟩ : _ ∧ _ ∧ _ ∧ _)
  clear h0 h1 h2 hB
  go_wp2
  go_ret2
  exact ⟨nb, rfl, H.out⟩

theorem chain {a b c : World} (h : Below a.heap.size a b) (k : Below b.heap.size b c) : Below a.heap.size a c := h.trans (k.mono h.size)
theorem str_append (x y : List UInt8) : str x ++ str y = str (x ++ y) := by
  apply ByteArray.ext
  apply Array.toList_inj.1
  rw [ByteArray.data_append]
  simp [str]
theorem ver_cat (a b c : Nat) : str (utoa a) ++ { data := #[46] } ++ str (utoa b) ++ { data := #[46] } ++ str (utoa c) = str (ver a b c) := by
  have hd : ({ data := #[46] } : ByteArray) = str [46] := rfl
  rw [hd, str_append, str_append, str_append, str_append]
  unfold ver
  congr 1
  simp

set_option maxHeartbeats 1000000 in
set_option maxRecDepth 100000 in
theorem law (a b c : Nat) (w : World) (ha : a < two64) (hb : b < two64) (hc : c < two64) (h3 : 3 ≤ w.heap.size) (hm : ∃ m, w.cell? ⟨2, 0, none⟩ = some (.int .i64 m)) :
    Calls Tryd.prog 4 #[.int .u64 a, .int .u64 b, .int .u64 c] w fun e w' => e = .returned (.bool true) ∧ Below w.heap.size w w' := by
  have HAB := hide (⟨ha, hb, hc⟩ : a < two64 ∧ b < two64 ∧ c < two64)
  have HM := hide hm
  obtain ⟨A, hA⟩ : ∃ A, A = str (utoa a) := ⟨_, rfl⟩
  obtain ⟨B, hB⟩ : ∃ B, B = str (utoa b) := ⟨_, rfl⟩
  obtain ⟨C, hC⟩ : ∃ C, C = str (utoa c) := ⟨_, rfl⟩
  have sA : A.size ≤ 20 := by rw [hA, str_size]; exact (utoa_len a ha).2
  have sB : B.size ≤ 20 := by rw [hB, str_size]; exact (utoa_len b hb).2
  have sC : C.size ≤ 20 := by rw [hC, str_size]; exact (utoa_len c hc).2
  have uA := fun w => utoa_any a w HAB.out.1
  have uB := fun w => utoa_any b w HAB.out.2.1
  have uC := fun w => utoa_any c w HAB.out.2.2
  rw [← hA] at uA
  rw [← hB] at uB
  rw [← hC] at uC
  have HuA := hide uA
  have HuB := hide uB
  have HuC := hide uC
  have HA := hide hA
  have HB := hide hB
  have HC := hide hC
  clear ha hb hc hm uA uB uC hA hB hC
  go_enter Tryd.func4, Tryd.ntmps4
  go_wp2_with fail
  refine Calls.mono (HuA.out _) ?_
  rintro e w1 ⟨rfl, L1⟩
  go_wp2_with fail
  refine Calls.mono (HuB.out _) ?_
  rintro e w2 ⟨rfl, L2⟩
  go_wp2_with fail
  refine Calls.mono (HuC.out _) ?_
  rintro e w3 ⟨rfl, L3⟩
  go_wp2_with fail
  have hcat : A ++ { data := #[46] } ++ B ++ { data := #[46] } ++ C = str (ver a b c) := by
    rw [HA.out, HB.out, HC.out]
    exact ver_cat a b c
  rw [hcat]
  clear hcat
  have hm3 : ∃ m, w3.cell? ⟨2, 0, none⟩ = some (.int .i64 m) := by
    obtain ⟨m, hm⟩ := HM.out
    exact ⟨m, ((chain L1 (chain L2 L3)).cell (p := ⟨2, 0, none⟩) h3).trans hm⟩
  refine Calls.mono (zzparse_ver a b c w3 HAB.out.1 HAB.out.2.1 HAB.out.2.2 hm3) ?_
  rintro e w4 ⟨nb, rfl, c0, c1, c2, L4⟩
  have LL := hide (chain L1 (chain L2 (chain L3 L4)))
  clear hm3 L1 L2 L3 L4
  go_wp2
  go_ret
  exact ⟨rfl, LL.out⟩
end Go.Proofs.Qxb6605564aDoor
