import Derived.Test.Qxb6000122aDoorDec
namespace Go.Proofs.Qxb6000122aDoor
open Go.RowKit

theorem enc_first (r : Nat) (lo : 128 ≤ r) (hi : r ≤ 1114111) : (Utf8.encode r).data.toList[0]? ≠ some 13 := by
  unfold Utf8.encode
  generalize hc : (if Utf8.valid (r : Int) then (r : Int).toNat else Utf8.runeError) = c
  have hc1 : 128 ≤ c ∧ c ≤ 1114111 := by
    rw [← hc]
    split
    · rw [Int.toNat_natCast]; omega
    · decide
  have key : ∀ x : Nat, 192 ≤ x → x < 256 → UInt8.ofNat x ≠ 13 := fun x h1 h2 e => by
    have := congrArg UInt8.toNat e
    rw [UInt8.toNat_ofNat'] at this
    have h13 : (13 : UInt8).toNat = 13 := rfl
    omega
  simp only
  rw [if_neg (by omega)]
  split
  · intro e
    exact key (192 + c / 64) (by omega) (by omega) (by simpa using e)
  · split
    · intro e
      exact key (224 + c / 4096) (by omega) (by omega) (by simpa using e)
    · intro e
      exact key (240 + c / 262144) (by omega) (by omega) (by simpa using e)

/-- string(r) is not "\r\n", and "\r\n" does not hold it. -/
theorem enc_facts (r k : Nat) (lo : 128 ≤ r) (hi : r ≤ 1114111) (hs : (Utf8.encode r).size = k) (_h2 : 2 ≤ k) :
    ∃ es : ByteArray, (∀ w, (convert 21 9 (.int .i32 r)).run Tryd.prog w = .ok (.string es) w) ∧ ((crlf.toList == es.toList) = false) ∧
      ∀ (w : World) (m : Int), w.cell? ⟨0, 0, none⟩ = some (.int .i64 m) → 3 ≤ k → (k : Int) ≤ m → (callFunc 18 #[.string crlf, .string es]).run Tryd.prog w = .ok (.value (.int .i64 (-1))) w := by
  refine ⟨Utf8.encode r, fun w => run_convert_int_string w 21 9 .i32 r (by rw [Tryd.underlying21]; rfl) Tryd.underlying9, ?_, ?_⟩
  · rw [beq_eq_false_iff_ne]
    intro e
    rw [Lib.toList_data, Lib.toList_data] at e
    have e0 : (13 : UInt8) :: [10] = (Utf8.encode r).data.toList := e
    have hf := enc_first r lo hi
    rw [← e0] at hf
    exact hf rfl
  · intro w m hm h3 hk
    rw [run_callFunc_extern Tryd.func18 (by kernel_rfl) (by kernel_rfl) (by kernel_rfl) (e := Extern.BytealgIndex.index) (by kernel_rfl),
      Lib.run_indexString crlf (Utf8.encode r) w 0 m (by kernel_rfl) hm (by omega) (by omega) (by decide)]
    have hnone : Lib.index crlf.data.toList (Utf8.encode r).data.toList = -1 := by
      refine Lib.index_none fun j _ => ?_
      cases ho : Lib.occAt crlf.data.toList (Utf8.encode r).data.toList j with
      | false => rfl
      | true =>
        rcases Lib.occAt_room ho with h | h
        · rw [← Lib.size_eq, ← Lib.size_eq] at h
          have : crlf.size = 2 := rfl
          omega
        · have : (Utf8.encode r).size = 0 := by rw [Lib.size_eq, h]; rfl
          omega
    rw [hnone]
    rfl

theorem call14c_hit (x : UInt8) (h : isEnd x = true) : ∃ r : Int, 0 ≤ r ∧ r ≤ 1 ∧ ∀ w, (callFunc 12 #[.string crlf, .int .u8 x.toNat]).run Tryd.prog w = .ok (.value (.int .i64 r)) w := call14_hit x h
theorem call14c_miss (x : UInt8) (h : isEnd x = false) : ∀ w, (callFunc 12 #[.string crlf, .int .u8 x.toNat]).run Tryd.prog w = .ok (.value (.int .i64 (-1))) w := call14_miss x h
theorem NoEnd.add {g : Nat → UInt8} {k d : Nat} (h : NoEnd g k) (h2 : NoEnd (fun j => g (k + j)) d) : NoEnd g (k + d) := fun j hj => by
  by_cases hl : j < k
  · exact h j hl
  · have this : isEnd (g (k + (j - k))) = false := h2 (j - k) (by omega)
    rw [show k + (j - k) = j by omega] at this
    exact this
theorem hide {p : Prop} (h : p) : Hid p := h

set_option maxHeartbeats 1000000 in
set_option maxRecDepth 100000 in
theorem any_short (g : Nat → UInt8) (n b off c : Nat) (w : World) (h8 : n ≤ 8) (h2 : 2 ≤ n) (hcap : n ≤ c) (hb : b < w.heap.size) (h3 : 3 ≤ w.heap.size) (hE : Env w) (hc : BA w b off g n) :
    Calls Tryd.prog 11 #[.slice (some ⟨b, off, none⟩) n c, .string crlf] w fun e w' => ∃ r, e = .returned (.int .i64 r) ∧ IsFirst g n r ∧ Below w.heap.size w w' := by
  have hemp : crlf.toList.isEmpty = false := by rw [Lib.toList_data]; rfl
  have hcs : crlf.size = 2 := rfl
  have hn1 : ((n : Int) == 1) = false := beq_eq_false_iff_ne.2 (by omega)
  have h8z : decide ((8 : Int) < (n : Int)) = false := decide_eq_false (by omega)
  go_enter Tryd.func11, Tryd.ntmps11
  go_wp2_with fail
  refine (useSet_any _ _).mono ?_
  rintro e w' ⟨rfl, hw⟩
  rw [hw, h8z]
  clear hw
  go_wp2_with fail
  go_loopg [12] n (fun q i wx => ∃ k : Nat, k + q = n ∧ i = .int .i64 k ∧ NoEnd g k ∧ Below w.heap.size w wx)
  case atStart => exact ⟨0, by omega, rfl, NoEnd.zero g, Below.refl _ _⟩
  case round =>
    obtain ⟨k, hkq, rfl, hno, hbel⟩ := hrel
    have HN : Hid (NoEnd g k) := hno
    have HB : Hid (Below w.heap.size w wr) := hbel
    cases gk with
    | zero =>
      obtain rfl : n = k := by omega
      have hiz : ¬ ((n : Int) < (n : Int)) := by omega
      clear hno hbel
      go_wp2
      go_ret
      exact ⟨_, rfl, .inl ⟨rfl, HN.out⟩, HB.out⟩
    | succ q =>
      have hk : k < n := by omega
      have hkz : (k : Int) < (n : Int) := by omega
      have hck := (hc.below hbel hb) k hk
      have hx256 := UInt8.toNat_lt (g k)
      have hx : ((g k).toNat : Int) < 256 := by omega
      by_cases hlow : (g k).toNat < 128
      · have hlz : ((g k).toNat : Int) < 128 := by omega
        cases hend : isEnd (g k)
        · have HE : Hid (isEnd (g k) = false) := hend
          have hk14 := call14c_miss (g k) hend
          clear hno hbel hend
          go_wp2
          go_roundg q
          case measure => omega
          case rel => exact ⟨k + 1, by omega, by go_num, HN.out.succ HE.out, HB.out⟩
        · have HE : Hid (isEnd (g k) = true) := hend
          obtain ⟨r, hr0, _, hk14⟩ := call14c_hit (g k) hend
          clear hno hbel hend
          go_wp2
          go_ret
          exact ⟨_, rfl, .inr ⟨k, rfl, hk, HN.out, HE.out⟩, HB.out⟩
      · have hhi : (128 : Int) ≤ ((g k).toNat : Int) := by omega
        have hnk : ¬ c = k := by omega
        have hdec := fun (c' : Nat) => dec_any (fun j => g (k + j)) (n - k) b (off + k) c' wr (by omega) (by show 128 ≤ (g (k + 0)).toNat; rw [Nat.add_zero]; omega) (hE.below hbel h3) ((hc.below hbel hb).shift k)
        have HD := hide hdec
        have hbs := hbel.size
        have hEm := (hE.below hbel h3)
        have HEm : Hid (Env wr) := hEm
        clear hno hbel hdec hEm
        go_wp2_with fail
        refine (HD.out _).mono ?_
        rintro e w1 ⟨r, wd, rfl, D, hb1⟩
        have hk1 := D.k1
        have hkn := D.kn
        have hrlo := D.lo
        have hrhi := D.hi
        have hrz : (128 : Int) ≤ (r : Int) := by omega
        have hrz2 : (r : Int) ≤ 1114111 := by omega
        have hwz : (wd : Int) ≤ 8 := by omega
        have HBw : Hid (Below w.heap.size w w1) := HB.out.trans (hb1.mono hbs)
        have hEw := hE.below HBw.out h3
        obtain ⟨m, hm⟩ := hEw.1
        clear hEw hb1
        have HDd := hide D
        clear D
        have r13 : ((r : Int) == 13) = false := beq_eq_false_iff_ne.2 (by omega)
        have r10 : ((r : Int) == 10) = false := beq_eq_false_iff_ne.2 (by omega)
        by_cases hre : r = 65533
        · have hre' : ((r : Int) != 65533) = false := by simp [hre]
          have HR := hide hre
          clear hre
          go_wp2_with fail
          go_loopg [15] 2 (fun q2 _ wx => ∃ i : Nat, i + q2 = 2 ∧ wx = w1.iter crlf i)
          case atStart => exact ⟨0, rfl, rfl⟩
          case round =>
            obtain ⟨i, hig, rfl⟩ := hrel
            match gk, i, hig with
            | 0, i, hig =>
              obtain rfl : i = 2 := by omega
              have hnx : ∀ ty, (Instr.next (.pointer (some ⟨w1.heap.size, 0, none⟩)) true ty).run Tryd.prog (w1.iter crlf 2) = .ok (.tuple #[.bool false]) (w1.iter crlf 2) := fun ty => run_next_end (P := Tryd.prog) w1 crlf 2 ty (by decide)
              go_wp2
              go_roundg (n - (k + wd))
              case measure => omega
              case rel => exact ⟨k + wd, by omega, by go_num, HN.out.add HDd.out.no, HBw.out.alloc HBw.out.size _⟩
            | 1, i, hig =>
              obtain rfl : i = 1 := by omega
              have hnx : ∀ ty, (Instr.next (.pointer (some ⟨w1.heap.size, 0, none⟩)) true ty).run Tryd.prog (w1.iter crlf 1) = .ok (.tuple #[.bool true, .int .i64 1, .int .i32 10]) (w1.iter crlf 2) := fun ty => run_next_ascii (P := Tryd.prog) w1 crlf 1 ty (by decide) (by decide)
              go_wp2
              go_roundg 0
              case measure => omega
              case rel => exact ⟨2, by omega, rfl⟩
            | 2, i, hig =>
              obtain rfl : i = 0 := by omega
              have hnx : ∀ ty, (Instr.next (.pointer (some ⟨w1.heap.size, 0, none⟩)) true ty).run Tryd.prog (w1.iter crlf 0) = .ok (.tuple #[.bool true, .int .i64 0, .int .i32 13]) (w1.iter crlf 1) := fun ty => run_next_ascii (P := Tryd.prog) w1 crlf 0 ty (by decide) (by decide)
              go_wp2
              go_roundg 1
              case measure => omega
              case rel => exact ⟨1, by omega, rfl⟩
            | g3 + 3, i, hig => exact absurd hig (by omega)
        · have hre' : ((r : Int) != 65533) = true := by simp; omega
          obtain ⟨hsz, hw2, hw4⟩ := HDd.out.sz hre
          obtain ⟨es, hcv, hcmp, hcall⟩ := enc_facts r wd hrlo hrhi hsz hw2
          have HR := hide hre
          have HS := hide hsz
          have HC := hide hcall
          have HP := hide hcmp
          have HV := hide hcv
          clear hre hsz hcall hcmp hcv
          by_cases hwd : wd = 2
          · subst hwd
            have hcmp := HP.out
            have hcv := HV.out
            go_wp2_with fail
            go_roundg (n - (k + 2))
            case measure => omega
            case rel => exact ⟨k + 2, by omega, by go_num, HN.out.add HDd.out.no, HBw.out⟩
          · have hwe : ((2 : Int) == (wd : Int)) = false := by simp; omega
            have HW := hide hwd
            clear hwd
            by_cases hmw : (wd : Int) ≤ m
            · have hcl := HC.out w1 m hm (by have := HW.out; omega) hmw
              have hcv := HV.out
              go_wp2_with fail
              go_roundg (n - (k + wd))
              case measure => omega
              case rel => exact ⟨k + wd, by omega, by go_num, HN.out.add HDd.out.no, HBw.out⟩
            · clear HC HP HV HR HS HW hw2 hw4
              go_wp2_with fail
              go_loopg [15] 2 (fun q2 _ wx => ∃ i : Nat, i + q2 = 2 ∧ wx = w1.iter crlf i)
              case atStart => exact ⟨0, rfl, rfl⟩
              case round =>
                obtain ⟨i, hig, rfl⟩ := hrel
                match gk, i, hig with
                | 0, i, hig =>
                  obtain rfl : i = 2 := by omega
                  have hnx : ∀ ty, (Instr.next (.pointer (some ⟨w1.heap.size, 0, none⟩)) true ty).run Tryd.prog (w1.iter crlf 2) = .ok (.tuple #[.bool false]) (w1.iter crlf 2) := fun ty => run_next_end (P := Tryd.prog) w1 crlf 2 ty (by decide)
                  go_wp2
                  go_roundg (n - (k + wd))
                  case measure => omega
                  case rel => exact ⟨k + wd, by omega, by go_num, HN.out.add HDd.out.no, HBw.out.alloc HBw.out.size _⟩
                | 1, i, hig =>
                  obtain rfl : i = 1 := by omega
                  have hnx : ∀ ty, (Instr.next (.pointer (some ⟨w1.heap.size, 0, none⟩)) true ty).run Tryd.prog (w1.iter crlf 1) = .ok (.tuple #[.bool true, .int .i64 1, .int .i32 10]) (w1.iter crlf 2) := fun ty => run_next_ascii (P := Tryd.prog) w1 crlf 1 ty (by decide) (by decide)
                  go_wp2
                  go_roundg 0
                  case measure => omega
                  case rel => exact ⟨2, by omega, rfl⟩
                | 2, i, hig =>
                  obtain rfl : i = 0 := by omega
                  have hnx : ∀ ty, (Instr.next (.pointer (some ⟨w1.heap.size, 0, none⟩)) true ty).run Tryd.prog (w1.iter crlf 0) = .ok (.tuple #[.bool true, .int .i64 0, .int .i32 13]) (w1.iter crlf 1) := fun ty => run_next_ascii (P := Tryd.prog) w1 crlf 0 ty (by decide) (by decide)
                  go_wp2
                  go_roundg 1
                  case measure => omega
                  case rel => exact ⟨1, by omega, rfl⟩
                | g3 + 3, i, hig => exact absurd hig (by omega)
end Go.Proofs.Qxb6000122aDoor
