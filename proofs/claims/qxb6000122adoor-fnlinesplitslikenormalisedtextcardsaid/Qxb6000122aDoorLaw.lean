import Derived.Test.Qxb6000122aDoorNorm
import Derived.Laws.OwnMore
namespace Go.Proofs.Qxb6000122aDoor
open Go.RowKit

theorem chain {a b c : World} (h : Below a.heap.size a b) (k : Below b.heap.size b c) : Below a.heap.size a c := h.trans (k.mono h.size)
theorem Buf.belowB {g : Nat → UInt8} {n b off B : Nat} {w w' : World} (h : Buf g n b off w) (hb : Below B w w') (h3 : 3 ≤ B) (hB : b < B) : Buf g n b off w' :=
  ⟨h.le, Nat.le_trans h.b3 hb.size, Nat.lt_of_lt_of_le h.bw hb.size, h.env.below hb h3, h.ba.below hb hB⟩

/-- Bytes as the cells of a row. -/
def u8s (L : List UInt8) : List Value := L.map fun x => .int .u8 x.toNat
theorem u8s_length (L : List UInt8) : (u8s L).length = L.length := by simp [u8s]

def nf (L : List UInt8) (j : Nat) : UInt8 := L.getD j 0
theorem row_BA {w : World} {nb n : Nat} {L : List UInt8} (h : w.ownsRow nb 5 1 (.slice (some ⟨nb, 0, none⟩) L.length n) L.length (u8s L)) : BA w nb 0 (nf L) L.length := fun j hj => by
  rw [Nat.zero_add, h.cellAt j (by omega)]
  simp [u8s, nf, List.getD, List.getElem?_eq_getElem hj]
/-- ZZLine, nothing scanned, nothing to come. -/
theorem zz1N (g : Nat → UInt8) (n b pos : Nat) (w : World) (h : Buf g n b 0 w) (hp : pos ≤ n) (hno : ∀ j, pos ≤ j → j < n → isEnd (g j) = false) :
    Calls Tryd.prog 7 #[.slice (some ⟨b, 0, none⟩) n n, .int .i64 pos, .int .i64 0, .bool true] w fun e w' =>
      e = .returned (.tuple #[.slice none 0 0, .bool false, .int .i64 pos, .int .i64 ((n - pos : Nat) : Int)]) ∧ Below w.heap.size w w' :=
  zzN g n b 0 pos 0 true w h (by omega) (fun j hj => hno j (by omega))
theorem zz1H (g : Nat → UInt8) (n b pos i : Nat) (w : World) (h : Buf g n b 0 w) (hi : Fst g n pos i) :
    Calls Tryd.prog 7 #[.slice (some ⟨b, 0, none⟩) n n, .int .i64 pos, .int .i64 0, .bool true] w fun e w' =>
      e = .returned (.tuple #[.slice (some ⟨b, pos, none⟩) (i - pos) (n - pos), .bool true, .int .i64 ((i + elen g n i : Nat) : Int), .int .i64 0]) ∧ Below w.heap.size w w' := by
  have := zzH g n b 0 pos 0 i true w h hi (by unfold whole; rfl)
  rw [Nat.zero_add] at this
  exact this
theorem seg_BA {w : World} {nb aa k m : Nat} {L : List UInt8} {f : Nat → UInt8} (h : BA w nb 0 (nf L) m) (hf : ∀ j, j < k → L.getD (aa + j) 0 = f j) (hk : aa + k ≤ m) : BA w nb aa f k := fun j hj => by
  have := h (aa + j) (by omega)
  rw [Nat.zero_add] at this
  rw [this, ← hf j hj]
  rfl
theorem chainB {a b c : World} (h : Below a.heap.size a b) (k : Below b.heap.size b c) : Below a.heap.size a c := h.trans (k.mono h.size)
theorem one_new (wr : World) (v : Value) : ∀ (j : Nat) (u : Value), [v][j]? = some u → (wr.alloc (.cells #[v] 5)).cell? ((⟨wr.heap.size, 0, none⟩ : Addr).add j) = some u := fun j u hj => by
  match j, hj with
  | 0, hj => simp at hj; subst hj; simp [Addr.add]
theorem one_cell (k : IntKind) (z : Int) : ∀ u ∈ [Value.int k z], u.oneCell' = true := fun u hu => by simp at hu; subst hu; rfl
/-- What the append of one byte leaves. -/
theorem after_append {wr w2 w : World} {nb n : Nat} {L : List UInt8} {x : UInt8} (ho : w2.ownsRow nb 5 1 (.slice (some ⟨nb, 0, none⟩) (L.length + 1) n) (L.length + 1) (u8s L ++ [.int .u8 x.toNat]))
    (hg : (wr.alloc (.cells #[.int .u8 x.toNat] 5)).grownBy w2 (some nb)) (hn : nb < wr.heap.size) (hb : Below nb w wr) :
    w2.ownsRow nb 5 1 (.slice (some ⟨nb, 0, none⟩) (L ++ [x]).length n) (L ++ [x]).length (u8s (L ++ [x])) ∧ Below nb w w2 ∧ nb < w2.heap.size := by
  refine ⟨?_, (hb.alloc (by omega) _).grown hg (by simp; omega) (fun k hk => by cases hk; exact Nat.le_refl _), ?_⟩
  · have e1 : (L ++ [x]).length = L.length + 1 := by simp
    have e2 : u8s (L ++ [x]) = u8s L ++ [.int .u8 x.toNat] := by simp [u8s]
    rw [e1, e2]
    exact ho
  · have := hg.size
    simp at this
    omega

set_option maxHeartbeats 1000000 in
set_option maxRecDepth 100000 in
theorem law_main (g : Nat → UInt8) (n c : Nat) (a : Option Addr) (w : World) (hle : n ≤ 1048576)
    (hcl : Calls Tryd.prog 6 #[.slice a n c] w fun e w' => ∃ b', e = .returned (.slice (some ⟨b', 0, none⟩) n n) ∧ Buf g n b' 0 w' ∧ Below w.heap.size w w') :
    Calls Tryd.prog 3 #[.slice a n c] w fun e w' => e = .returned (.bool true) ∧ Below w.heap.size w w' := by
  have HL := Hid.out (p := Hid _) hcl
  have hz1 : (n : Int) ≤ 1048576 := by omega
  have hmk : ∀ W : World, (Instr.makeSlice 22 (.int .i64 0) (.int .i64 (n : Int))).run Tryd.prog W = .ok (.slice (some ⟨W.heap.size, 0, none⟩) 0 n) (W.alloc (.cells (clArr g 0 n) 5)) := fun W => by
    obtain ⟨i0, hi, hz0, hz1, hz2⟩ := info_parts info5
    have h := run_make (P := Tryd.prog) W 22 5 i0 (.int .u8 0) Tryd.underlying22 hi hz0 .i64 .i64 0 n (by omega) (by omega) (by rw [hz2]; omega) (by omega)
    rw [h, hz1]
    simp only [Int.toNat_natCast, Nat.mul_one, Int.toNat_zero]
    rw [← clArr_made g n]
    rfl
  obtain ⟨i0, hi5, _, hz5, _⟩ := info_parts info5
  clear hcl
  go_enter Tryd.func3, Tryd.ntmps3
  go_wp2_with fail
  refine (zzBytes_any _ _ _ _ (by unfold maxLen; omega)).mono ?_
  rintro e w' ⟨rfl, hw⟩
  rw [hw, decide_eq_true hle]
  clear hw
  go_wp2_with fail
  refine Calls.mono HL ?_
  rintro e w1 ⟨b1, rfl, B1, L1⟩
  go_wp2_with fail
  have hmade := World.ownsRow_made (base := w1.heap.size) (e := 5) (size := 1) w1 (clArr g 0 n) n (Nat.le_refl _) (by unfold maxLen; omega) (by rw [clArr_size]; omega)
  have HB1 := hide B1
  have HL1 := hide L1
  have h3 := B1.b3
  have hb1 := B1.bw
  clear B1 L1
  go_loopw [3, 4] (fun v j wr => ∃ (p : Nat) (L : List UInt8), p ≤ n ∧ j = .int .i64 p ∧ v = .slice (some ⟨w1.heap.size, 0, none⟩) L.length n ∧ wr.ownsRow w1.heap.size 5 1 (.slice (some ⟨w1.heap.size, 0, none⟩) L.length n) L.length (u8s L) ∧
      L ++ nz g n p = nz g n 0 ∧ Below w1.heap.size w1 wr ∧ w1.heap.size < wr.heap.size) (fun _ j _ => n - (intOf j).toNat)
  case atStart => exact ⟨0, [], by omega, rfl, rfl, hmade, rfl, (Below.refl _ _).alloc (Nat.le_refl _) _, by simp⟩
  case round =>
    obtain ⟨p, L, hp, rfl, rfl, hown, hnz, hbel, hsz⟩ := hrel
    have HO := hide hown
    have HZ := hide hnz
    have HB := hide hbel
    clear hown hnz hbel hmade hmk
    by_cases hlt : p < n
    · have hpz : (p : Int) < (n : Int) := by omega
      have hcell := (HB1.out.belowB HB.out h3 hb1).ba p hlt
      rw [Nat.zero_add] at hcell
      have hst := nz_step g n p hlt
      have hlen := nz_length g n n 0 (by omega)
      have hroom : L.length + 1 ≤ n := by
        rw [← HZ.out, hst] at hlen
        simp at hlen
        omega
      have Hst := hide hst
      clear hst hlen
      by_cases h13 : g p = 13
      · rw [h13] at hcell
        have hown' := HO.out.alloc (.cells #[.int .u8 10] 5)
        have HOA := hide hown'
        have hcn := hide (one_new wr (.int .u8 10))
        have H13 := hide h13
        clear hown' h13
        by_cases hmore : p + 1 < n
        · have hmz : (p : Int) + 1 < (n : Int) := by omega
          have HM := hide hmore
          by_cases h10 : g (p + 1) = 10
          · have HE : Hid (elen g n p = 2) := by
              show elen g n p = 2
              unfold elen; rw [if_pos ⟨H13.out, hmore, h10⟩]
            have H10 := hide h10
            clear h10 hmore
            go_wp2_with (at_builtin; refine wpList_append_fits _ rfl (.tmp 38) (.tmp 39) 22 rfl w1.heap.size 5 i0 1 Tryd.underlying22 hi5 hz5 w1.heap.size L.length n (u8s L) rfl HOA.out ⟨wr.heap.size, 0, none⟩ 1 1 [.int .u8 10] rfl rfl hcn.out (one_cell _ _) hroom ?_; intro w2 hown2 hgrow2; have HA := hide (after_append (x := 10) hown2 hgrow2 hsz HB.out); clear hown2 hgrow2; have hcx := (HB1.out.belowB HA.out.2.1 h3 hb1).ba (p + 1) HM.out; rw [Nat.zero_add, H10.out] at hcx)
            go_roundw
            case rel => exact ⟨p + 2, L ++ [10], by have := HM.out; omega, by go_num, by simp, HA.out.1, by rw [List.append_assoc, ← HZ.out, Hst.out, if_pos H13.out, HE.out]; rfl, HA.out.2.1, HA.out.2.2⟩
            case measure => simp [intOf]; omega
          · have HE : Hid (elen g n p = 1) := by
              show elen g n p = 1
              unfold elen; rw [if_neg (fun hh => h10 hh.2.2)]
            have h10z : (((g (p + 1)).toNat : Int) == 10) = false := by
              rw [beq_eq_false_iff_ne]; intro e; exact h10 (UInt8.toNat.inj (by simp; omega))
            clear h10 hmore
            go_wp2_with (at_builtin; refine wpList_append_fits _ rfl (.tmp 38) (.tmp 39) 22 rfl w1.heap.size 5 i0 1 Tryd.underlying22 hi5 hz5 w1.heap.size L.length n (u8s L) rfl HOA.out ⟨wr.heap.size, 0, none⟩ 1 1 [.int .u8 10] rfl rfl hcn.out (one_cell _ _) hroom ?_; intro w2 hown2 hgrow2; have HA := hide (after_append (x := 10) hown2 hgrow2 hsz HB.out); clear hown2 hgrow2; have hcx := (HB1.out.belowB HA.out.2.1 h3 hb1).ba (p + 1) HM.out; rw [Nat.zero_add] at hcx)
            go_roundw
            case rel => exact ⟨p + 1, L ++ [10], by omega, by go_num, by simp, HA.out.1, by rw [List.append_assoc, ← HZ.out, Hst.out, if_pos H13.out, HE.out]; rfl, HA.out.2.1, HA.out.2.2⟩
            case measure => simp [intOf]; omega
        · have hmz : (n : Int) ≤ (p : Int) + 1 := by omega
          have HE : Hid (elen g n p = 1) := by
            show elen g n p = 1
            unfold elen; rw [if_neg (fun hh => hmore hh.2.1)]
          clear hmore
          go_wp2_with (at_builtin; refine wpList_append_fits _ rfl (.tmp 38) (.tmp 39) 22 rfl w1.heap.size 5 i0 1 Tryd.underlying22 hi5 hz5 w1.heap.size L.length n (u8s L) rfl HOA.out ⟨wr.heap.size, 0, none⟩ 1 1 [.int .u8 10] rfl rfl hcn.out (one_cell _ _) hroom ?_; intro w2 hown2 hgrow2; have HA := hide (after_append (x := 10) hown2 hgrow2 hsz HB.out); clear hown2 hgrow2)
          go_roundw
          case rel => exact ⟨p + 1, L ++ [10], by omega, by go_num, by simp, HA.out.1, by rw [List.append_assoc, ← HZ.out, Hst.out, if_pos H13.out, HE.out]; rfl, HA.out.2.1, HA.out.2.2⟩
          case measure => simp [intOf]; omega
      · have h13z : (((g p).toNat : Int) == 13) = false := by
          rw [beq_eq_false_iff_ne]; intro e; exact h13 (UInt8.toNat.inj (by simp; omega))
        have H13 := hide h13
        have hown' := HO.out.alloc (.cells #[.int .u8 (g p).toNat] 5)
        have HOA := hide hown'
        have hcn := hide (one_new wr (.int .u8 (g p).toNat))
        clear hown' h13
        go_wp2_with (at_builtin; refine wpList_append_fits _ rfl (.tmp 56) (.tmp 58) 22 rfl w1.heap.size 5 i0 1 Tryd.underlying22 hi5 hz5 w1.heap.size L.length n (u8s L) rfl HOA.out ⟨wr.heap.size, 0, none⟩ 1 1 [.int .u8 (g p).toNat] rfl rfl hcn.out (one_cell _ _) hroom ?_; intro w2 hown2 hgrow2)
        have HA := hide (after_append hown2 hgrow2 hsz HB.out)
        clear hown2 hgrow2
        go_roundw
        case rel => exact ⟨p + 1, L ++ [g p], by omega, by go_num, by simp, HA.out.1, by rw [List.append_assoc, ← HZ.out, Hst.out, if_neg H13.out, elen_plain H13.out]; rfl, HA.out.2.1, HA.out.2.2⟩
        case measure => simp [intOf]; omega
    · obtain rfl : p = n := by omega
      have hNL : L = nz g p 0 := by
        have := HZ.out
        rw [nz_end g p p (Nat.le_refl _), List.append_nil] at this
        exact this
      have HN := hide hNL
      clear hNL
      have Bw := HB1.out.belowB HB.out h3 hb1
      have NB : BA wr w1.heap.size 0 (nf L) L.length := row_BA HO.out
      have hm : L.length ≤ p := by
        have := nz_length g p p 0 (by omega)
        rw [← HN.out] at this
        omega
      have hmz : (L.length : Int) ≤ (p : Int) := by omega
      have HBw := hide Bw
      have HNB := hide NB
      have q22 : ∀ (w : World) (a : Option Addr) (n c n' c' : Nat), (binOp .eql 22 (.slice a n c) (.slice none n' c')).run Tryd.prog w = .ok (.bool a.isNone) w := fun w a n c n' c' => Lib.run_eql_slice_nil w _ _ a n c n' c' Tryd.underlying22
      clear Bw NB hlt
      go_wp2_with fail
      go_loopw [6, 7, 8, 9] (fun ps sc av kv w2 => ∃ pos aa kk : Nat, ps = .int .i64 pos ∧ sc = .int .i64 0 ∧ av = .int .i64 aa ∧ kv = .int .i64 kk ∧ kk ≤ aa ∧ aa ≤ L.length ∧ pos ≤ p ∧ L.drop aa = nz g p pos ∧ Below wr.heap.size wr w2) (fun _ _ av _ _ => L.length - (intOf av).toNat)
      case atStart => exact ⟨0, 0, 0, rfl, rfl, rfl, rfl, Nat.le_refl _, Nat.zero_le _, Nat.zero_le _, by rw [List.drop_zero]; exact HN.out, Below.refl _ _⟩
      case round =>
        obtain ⟨pos, aa, kk, rfl, rfl, rfl, rfl, hka, haL, hpp, hdrop, hb2⟩ := hrel
        have HD := hide hdrop
        have HB2 := hide hb2
        have HBu := hide (HBw.out.below hb2)
        have HNu := hide (HNB.out.below hb2 hsz)
        have hkz : (kk : Int) ≤ (L.length : Int) := by omega
        clear hdrop hb2
        rcases first_from g pos p with hno | ⟨i, hi⟩
        · have hS := nz_none g p pos hpp hno
          have hlen := len_drop (HD.out.trans hS) haL
          rw [seg_length] at hlen
          have hm1 : (L.length : Int) + (pos : Int) ≤ (aa : Int) + (p : Int) := by omega
          have hm2 : (aa : Int) + (p : Int) ≤ (L.length : Int) + (pos : Int) := by omega
          have Hlen := hide hlen
          have HS := hide hS
          have HF := hide hno
          clear hS hlen hno
          go_wp2_with fail
          go_loop [10, 11] (fun e t => e = .int .i64 (-1) ∧ ∃ tt : Nat, aa ≤ tt ∧ tt ≤ L.length ∧ t = .int .i64 tt) (fun _ t => L.length - (intOf t).toNat)
          case atStart => exact ⟨rfl, aa, Nat.le_refl _, haL, rfl⟩
          case round =>
            obtain ⟨rfl, tt, ht1, ht2, rfl⟩ := hrel
            by_cases htl : tt < L.length
            · have htz : (tt : Int) < (L.length : Int) := by omega
              have hct := HNu.out tt htl
              rw [Nat.zero_add] at hct
              have hne : (((nf L tt).toNat : Int) == 10) = false := by
                unfold nf
                have e1 := at_seg (HD.out.trans (HS.out.trans (List.append_nil _).symm)) (j := tt - aa) (by have := Hlen.out; omega)
                rw [show aa + (tt - aa) = tt by omega] at e1
                have e2 := (notEnd (HF.out (pos + (tt - aa)) (by omega) (by have := Hlen.out; omega))).2
                rw [e1, beq_eq_false_iff_ne]; intro e; exact e2 (UInt8.toNat.inj (by simp; omega))
              go_wp2_with fail
              go_round
              case rel => exact ⟨rfl, tt + 1, by omega, by omega, by go_num⟩
              case measure => simp [intOf]; omega
            · obtain rfl : tt = L.length := by omega
              go_wp2_with fail
              refine (zz1N g p b1 pos _ HBu.out hpp HF.out).mono ?_
              rintro e w3 ⟨rfl, L3⟩
              have LL : Hid (Below w.heap.size w w3) := (HL1.out.trans (HB.out.mono HL1.out.size)).trans ((HB2.out.mono (Nat.le_trans HL1.out.size HB.out.size)).trans (L3.mono (Nat.le_trans HL1.out.size (Nat.le_trans HB.out.size HB2.out.size))))
              have hfin : (((p - pos : Nat) : Int) == (L.length : Int) - (aa : Int)) = true := by simp; omega
              go_wp2
              go_ret
              exact ⟨rfl, LL.out⟩
        · have h1 := hi.ge
          have h2 := hi.lt
          have hS := nz_first g p pos i hi
          have hlen := len_drop (HD.out.trans hS) haL
          rw [List.length_append, seg_length, List.length_cons] at hlen
          have hel := elen_le g p i h2
          have hel1 := elen_pos g p i
          obtain ⟨e0, he0⟩ : ∃ e0, e0 = aa + (i - pos) := ⟨_, rfl⟩
          have he1 : aa ≤ e0 := by omega
          have he2 : e0 < L.length := by omega
          have he3 : e0 - aa = i - pos := by omega
          have hce := HNu.out e0 he2
          rw [Nat.zero_add] at hce
          have hv : nf L e0 = 10 := by
            rw [he0]; exact at_end (HD.out.trans hS)
          rw [hv] at hce
          have hez : (e0 : Int) < (L.length : Int) := by omega
          have HS := hide hS
          have HI := hide hi
          have HE0 := hide he0
          have HE3 := hide he3
          clear hS hlen hi he0 he3 hv
          go_wp2_with fail
          go_loop [10, 11] (fun e t => e = .int .i64 (-1) ∧ ∃ tt : Nat, aa ≤ tt ∧ tt ≤ e0 ∧ t = .int .i64 tt) (fun _ t => L.length - (intOf t).toNat)
          case atStart => exact ⟨rfl, aa, Nat.le_refl _, he1, rfl⟩
          case round =>
            obtain ⟨rfl, tt, ht1, ht2, rfl⟩ := hrel
            by_cases htl : tt < e0
            · have htz : (tt : Int) < (L.length : Int) := by omega
              have hct := HNu.out tt (by omega)
              rw [Nat.zero_add] at hct
              have hne : (((nf L tt).toNat : Int) == 10) = false := by
                unfold nf
                have hE0 := HE0.out
                have e1 := at_seg (HD.out.trans HS.out) (j := tt - aa) (by omega)
                rw [show aa + (tt - aa) = tt by omega] at e1
                have e2 := (notEnd (HI.out.no (pos + (tt - aa)) (by omega) (by omega))).2
                rw [e1, beq_eq_false_iff_ne]; intro e; exact e2 (UInt8.toNat.inj (by simp; omega))
              go_wp2_with fail
              go_round
              case rel => exact ⟨rfl, tt + 1, by omega, by omega, by go_num⟩
              case measure => simp [intOf]; omega
            · obtain rfl : tt = e0 := by omega
              go_wp2_with fail
              refine (zz1H g p b1 pos i _ HBu.out HI.out).mono ?_
              rintro e w3 ⟨rfl, L3⟩
              have B3 := HBu.out.below L3
              have N3 : BA _ w1.heap.size aa (fun j => g (pos + j)) (i - pos) := seg_BA (HNu.out.below L3 (Nat.lt_of_lt_of_le hsz HB2.out.size)) (fun j hj => at_seg (HD.out.trans HS.out) hj) (by have := HE3.out; omega)
              have G3 : BA _ b1 pos (fun j => g (pos + j)) (i - pos) := fun j hj => by
                have := B3.ba (pos + j) (by have := HI.out.lt; omega)
                rw [Nat.zero_add] at this
                exact this
              have HG := hide G3
              have HN3 := hide N3
              have L3' := hide L3
              clear B3 N3 G3 L3
              go_wp2_with fail
              rw [HE3.out]
              refine (zzEqual_same (fun j => g (pos + j)) (i - pos) b1 pos (p - pos) w1.heap.size aa (p - aa) _ (by omega) HG.out HN3.out).mono ?_
              rintro e w4 ⟨rfl, q, hw4⟩
              have HB4 : Hid (Below wr.heap.size wr w4) := by
                show Below wr.heap.size wr w4
                rw [hw4]
                exact L3'.out.trans (below_drewN' _ _ _)
              clear hw4
              go_wp2_with fail
              go_roundw
              case rel => exact ⟨i + elen g p i, tt + 1, kk + 1, by go_num, rfl, by go_num, by go_num, by omega, by omega, hel, by rw [show tt + 1 = aa + (i - pos) + 1 by have := HE0.out; omega]; exact drop_next (HD.out.trans HS.out), chainB HB2.out HB4.out⟩
              case measure => simp [intOf]; omega
end Go.Proofs.Qxb6000122aDoor
