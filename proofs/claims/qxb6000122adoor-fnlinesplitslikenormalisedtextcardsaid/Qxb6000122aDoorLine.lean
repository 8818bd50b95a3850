import Derived.Test.Qxb6000122aDoorLong
import Derived.Lib.DecodeN
namespace Go.Proofs.Qxb6000122aDoor
open Go.RowKit

/-- What the library's variables hold: MaxLen some int; the decoder's two tables as Go's text lays them. -/
def Env (w : World) : Prop := (∃ m, w.cell? ⟨0, 0, none⟩ = some (.int .i64 m)) ∧ (∀ c, c < 256 → w.cell? ⟨1, c, none⟩ = some (.int .u8 (Lib.firstT c))) ∧
  (∀ i, i < 16 → w.cell? ⟨2, 2 * i, none⟩ = some (.int .u8 (Lib.accLo i)) ∧ w.cell? ⟨2, 2 * i + 1, none⟩ = some (.int .u8 (Lib.accHi i)))
theorem Env.below {B : Nat} {w w' : World} (h : Env w) (hb : Below B w w') (hB : 3 ≤ B) : Env w' := by
  obtain ⟨⟨m, hm⟩, h1, h2⟩ := h
  refine ⟨⟨m, (hb.cell (p := ⟨0, 0, none⟩) (by show 0 < B; omega)).trans hm⟩, fun c hc => ?_, fun i hi => ⟨?_, ?_⟩⟩
  · exact (hb.cell (p := ⟨1, c, none⟩) (by show 1 < B; omega)).trans (h1 c hc)
  · exact (hb.cell (p := ⟨2, _, none⟩) (by show 2 < B; omega)).trans (h2 i hi).1
  · exact (hb.cell (p := ⟨2, _, none⟩) (by show 2 < B; omega)).trans (h2 i hi).2
theorem BA.below {B b off n : Nat} {g : Nat → UInt8} {w w' : World} (h : BA w b off g n) (hb : Below B w w') (hB : b < B) : BA w' b off g n := fun j hj =>
  (hb.cell (p := ⟨b, off + j, none⟩) hB).trans (h j hj)
theorem BA.shift {b off n : Nat} {g : Nat → UInt8} {w : World} (h : BA w b off g n) (q : Nat) : BA w b (off + q) (fun j => g (q + j)) (n - q) := fun j hj => by
  rw [Nat.add_assoc]; exact h (q + j) (by omega)

theorem below_drewN' (B : Nat) (w : World) (q : Nat) : Below B w (w.drewN q) := ⟨rfl, rfl, rfl, Nat.le_refl _, fun _ _ => rfl⟩

/-- bytes.IndexAny(s, "\r\n"), s not empty. -/
def AnySaid : Prop := ∀ (g : Nat → UInt8) (n b off c : Nat) (w : World), n ≤ 1048576 → 0 < n → n ≤ c → b < w.heap.size → 3 ≤ w.heap.size → Env w → BA w b off g n →
    Calls Tryd.prog 11 #[.slice (some ⟨b, off, none⟩) n c, .string ⟨#[13, 10]⟩] w fun e w' => ∃ r, e = .returned (.int .i64 r) ∧ IsFirst g n r ∧ Below w.heap.size w w'

theorem st_other (w1 : World) (pb i j : Nat) (v : Value) (h : i ≠ j) : (w1.setCell ⟨pb, i, none⟩ v).cell? ⟨pb, j, none⟩ = w1.cell? ⟨pb, j, none⟩ :=
  World.cell?_setCell_other _ _ _ _ (by intro e; injection e with _ e2 _; exact h e2)
theorem st_same (w1 : World) (pb i : Nat) (u v : Value) (h : w1.cell? ⟨pb, i, none⟩ = some u) : (w1.setCell ⟨pb, i, none⟩ v).cell? ⟨pb, i, none⟩ = some v :=
  World.cell?_setCell_same _ _ _ h
/-- The end of a call of 'line' that stores 'scanned' alone. -/
theorem end_scan {w w1 : World} {pb : Nat} {u2 u3 v : Value} (hb : Below (pb + 1) w w1) (h2 : w.cell? ⟨pb, 2, none⟩ = some u2) (h3 : w.cell? ⟨pb, 3, none⟩ = some u3) :
    (w1.setCell ⟨pb, 3, none⟩ v).cell? ⟨pb, 2, none⟩ = some u2 ∧ (w1.setCell ⟨pb, 3, none⟩ v).cell? ⟨pb, 3, none⟩ = some v ∧ Below pb w (w1.setCell ⟨pb, 3, none⟩ v) :=
  ⟨(st_other _ _ _ _ _ (by decide)).trans ((hb.cell (p := ⟨pb, 2, none⟩) (Nat.lt_succ_self _)).trans h2), st_same _ _ _ _ _ ((hb.cell (p := ⟨pb, 3, none⟩) (Nat.lt_succ_self _)).trans h3), (hb.mono (Nat.le_succ _)).setCell (Nat.le_refl _) _⟩
/-- The end of a call of 'line' that stores 'pos' and 'scanned'. -/
theorem end_both {w w1 : World} {pb : Nat} {u2 u3 v2 v3 : Value} (hb : Below (pb + 1) w w1) (h2 : w.cell? ⟨pb, 2, none⟩ = some u2) (h3 : w.cell? ⟨pb, 3, none⟩ = some u3) :
    ((w1.setCell ⟨pb, 2, none⟩ v2).setCell ⟨pb, 3, none⟩ v3).cell? ⟨pb, 2, none⟩ = some v2 ∧ ((w1.setCell ⟨pb, 2, none⟩ v2).setCell ⟨pb, 3, none⟩ v3).cell? ⟨pb, 3, none⟩ = some v3 ∧ Below pb w ((w1.setCell ⟨pb, 2, none⟩ v2).setCell ⟨pb, 3, none⟩ v3) :=
  ⟨(st_other _ _ _ _ _ (by decide)).trans (st_same _ _ _ _ _ ((hb.cell (p := ⟨pb, 2, none⟩) (Nat.lt_succ_self _)).trans h2)),
   st_same _ _ _ _ _ ((st_other _ _ _ _ _ (by decide)).trans ((hb.cell (p := ⟨pb, 3, none⟩) (Nat.lt_succ_self _)).trans h3)), ((hb.mono (Nat.le_succ _)).setCell (Nat.le_refl _) _).setCell (Nat.le_refl _) _⟩

set_option maxHeartbeats 400000 in
/-- An empty buffer. -/
theorem line_empty (a : Option Addr) (pb : Nat) (final : Bool) (w : World)
    (h0 : w.cell? ⟨pb, 0, none⟩ = some (.slice a 0 0)) (h2 : w.cell? ⟨pb, 2, none⟩ = some (.int .i64 0)) (h3 : w.cell? ⟨pb, 3, none⟩ = some (.int .i64 0))
    (f3 : w.frozen? ⟨pb, 3, none⟩ = false) :
    Calls Tryd.prog 10 #[.pointer (some ⟨pb, 0, none⟩), .bool final] w fun e w' => e = .returned (.tuple #[.slice none 0 0, .bool false]) ∧
      w'.cell? ⟨pb, 2, none⟩ = some (.int .i64 0) ∧ w'.cell? ⟨pb, 3, none⟩ = some (.int .i64 0) ∧ Below pb w w' := by
  go_enter Tryd.func10, Tryd.ntmps10
  go_wp2
  go_quiet (fail)
  go_wp2_with fail
  refine (any_empty _ _ _).mono ?_
  rintro e w' ⟨rfl, hw⟩
  rw [hw]
  clear hw
  go_wp2
  go_ret2
  exact ⟨rfl, end_scan (below_drewN' _ w nq) h2 h3⟩

set_option maxHeartbeats 400000 in
/-- Everything has been scanned already. -/
theorem line_full (b off n P0 S0 pb : Nat) (final : Bool) (w : World) (hn : n ≤ 1048576) (hq : P0 + S0 = n)
    (h0 : w.cell? ⟨pb, 0, none⟩ = some (.slice (some ⟨b, off, none⟩) n n)) (h2 : w.cell? ⟨pb, 2, none⟩ = some (.int .i64 P0)) (h3 : w.cell? ⟨pb, 3, none⟩ = some (.int .i64 S0))
    (f3 : w.frozen? ⟨pb, 3, none⟩ = false) :
    Calls Tryd.prog 10 #[.pointer (some ⟨pb, 0, none⟩), .bool final] w fun e w' => e = .returned (.tuple #[.slice none 0 0, .bool false]) ∧
      w'.cell? ⟨pb, 2, none⟩ = some (.int .i64 P0) ∧ w'.cell? ⟨pb, 3, none⟩ = some (.int .i64 ((n - P0 : Nat) : Int)) ∧ Below pb w w' := by
  have hP : P0 ≤ n := by omega
  have hPz : (P0 : Int) ≤ (n : Int) := by omega
  by_cases hz : P0 = n
  · obtain rfl : S0 = 0 := by omega
    subst hz
    have h3' : w.cell? ⟨pb, 3, none⟩ = some (.int .i64 0) := h3
    clear hq
    go_enter Tryd.func10, Tryd.ntmps10
    go_wp2
    go_quiet (fail)
    go_wp2_with fail
    refine (any_empty _ _ _).mono ?_
    rintro e w' ⟨rfl, hw⟩
    rw [hw]
    clear hw
    go_wp2
    go_ret2
    have hend := end_scan (v := .int .i64 0) (below_drewN' _ w nq) h2 h3
    rw [Nat.sub_self]
    exact ⟨rfl, hend⟩
  · have hne : ¬ n = P0 := fun e => hz e.symm
    obtain ⟨k, rfl⟩ : ∃ k, n = P0 + k := ⟨S0, hq.symm⟩
    obtain rfl : k = S0 := by omega
    have hk : ¬ k = 0 := by omega
    clear hq hz
    go_enter Tryd.func10, Tryd.ntmps10
    go_wp2
    go_quiet (fail)
    go_wp2_with fail
    refine (any_empty _ _ _).mono ?_
    rintro e w' ⟨rfl, hw⟩
    rw [hw]
    clear hw
    go_wp2
    go_ret2
    have hend := end_scan (v := .int .i64 k) (below_drewN' _ w nq) h2 h3
    rw [Nat.add_sub_cancel_left]
    exact ⟨rfl, hend⟩

theorem IsFirst.of_none {g : Nat → UInt8} {n : Nat} {r : Int} (h : IsFirst g n r) (hno : NoEnd g n) : r = -1 := by
  rcases h with ⟨rfl, _⟩ | ⟨i, _, hi, _, hy⟩
  · rfl
  · rw [hno i hi] at hy; cases hy
theorem IsFirst.of_some {g : Nat → UInt8} {n i : Nat} {r : Int} (h : IsFirst g n r) (hi : i < n) (hno : NoEnd g i) (hy : isEnd (g i) = true) : r = i := by
  rcases h with ⟨_, h⟩ | ⟨j, rfl, hj, hn, hyj⟩
  · rw [h i hi] at hy; cases hy
  · have h1 : ¬ j < i := fun hl => by rw [hno j hl] at hyj; cases hyj
    have h2 : ¬ i < j := fun hl => by rw [hn i hl] at hy; cases hy
    have : j = i := by omega
    rw [this]

/-- What 'line' is told: the parser lies at block pb; its buffer holds the bytes g, P0 + (S0 + m) of them, m not zero; P0 have been read, S0 behind them scanned. -/
structure LineIn (g : Nat → UInt8) (b off P0 S0 m pb : Nat) (w : World) : Prop where
  le : P0 + (S0 + m) ≤ 1048576
  pos : 0 < m
  pb3 : 3 ≤ pb
  bpb : b < pb
  pbw : pb < w.heap.size
  env : Env w
  ba : BA w b off g (P0 + (S0 + m))
  h0 : w.cell? ⟨pb, 0, none⟩ = some (.slice (some ⟨b, off, none⟩) (P0 + (S0 + m)) (P0 + (S0 + m)))
  h2 : w.cell? ⟨pb, 2, none⟩ = some (.int .i64 P0)
  h3 : w.cell? ⟨pb, 3, none⟩ = some (.int .i64 S0)
  f2 : w.frozen? ⟨pb, 2, none⟩ = false
  f3 : w.frozen? ⟨pb, 3, none⟩ = false

theorem LineIn.any (A : AnySaid) {g : Nat → UInt8} {b off P0 S0 m pb : Nat} {w : World} (h : LineIn g b off P0 S0 m pb w) (q : Nat) :
    Calls Tryd.prog 11 #[.slice (some ⟨b, off + P0 + S0, none⟩) m m, .string ⟨#[13, 10]⟩] (w.drewN q) fun e w' => ∃ r, e = .returned (.int .i64 r) ∧ IsFirst (fun j => g (P0 + S0 + j)) m r ∧ Below (pb + 1) w w' := by
  have hbw := below_drewN' w.heap.size w q
  have := h.pbw; have := h.bpb; have := h.pb3; have := h.le
  refine (A (fun j => g (P0 + S0 + j)) m b (off + P0 + S0) m (w.drewN q) (by omega) h.pos (Nat.le_refl _) (by show b < w.heap.size; omega) (by show 3 ≤ w.heap.size; omega) (h.env.below hbw (by omega)) ?_).mono ?_
  · have hh := (h.ba.shift (P0 + S0)).below hbw (by omega)
    rw [← Nat.add_assoc, show P0 + (S0 + m) - (P0 + S0) = m by omega] at hh
    exact hh
  · rintro e w' ⟨r, he, hf, hb⟩
    exact ⟨r, he, hf, ((below_drewN' w.heap.size w q).trans hb).mono (by omega)⟩

set_option maxHeartbeats 400000 in
/-- No line end behind what was scanned. -/
theorem line_miss (A : AnySaid) (g : Nat → UInt8) (b off P0 S0 m pb : Nat) (final : Bool) (w : World) (H : LineIn g b off P0 S0 m pb w)
    (hno : NoEnd (fun j => g (P0 + S0 + j)) m) :
    Calls Tryd.prog 10 #[.pointer (some ⟨pb, 0, none⟩), .bool final] w fun e w' => e = .returned (.tuple #[.slice none 0 0, .bool false]) ∧
      w'.cell? ⟨pb, 2, none⟩ = some (.int .i64 P0) ∧ w'.cell? ⟨pb, 3, none⟩ = some (.int .i64 ((S0 + m : Nat) : Int)) ∧ Below pb w w' := by
  have hle := H.le
  have hm := H.pos
  have h0 := H.h0
  have h2 := H.h2
  have h3 := H.h3
  have f3 := H.f3
  have hne : ¬ P0 + (S0 + m) = P0 := by omega
  have hne2 : ¬ S0 + m = S0 := by omega
  have hP : P0 ≤ P0 + (S0 + m) := by omega
  have HN : Hid (NoEnd (fun j => g (P0 + S0 + j)) m) := hno
  clear hno
  go_enter Tryd.func10, Tryd.ntmps10
  go_wp2
  go_quiet (fail)
  go_wp2_with fail
  refine (H.any A nq).mono ?_
  rintro e w1 ⟨r, rfl, hf, hb⟩
  obtain rfl : r = -1 := hf.of_none HN.out
  have h3' := (hb.cell (p := ⟨pb, 3, none⟩) (Nat.lt_succ_self _)).trans h3
  have f3' := (hb.frozen (p := ⟨pb, 3, none⟩) (Nat.lt_succ_self _)).trans f3
  have HB : Hid (Below (pb + 1) w w1) := hb
  clear hf hb
  go_wp2
  go_ret2
  exact ⟨rfl, end_scan HB.out h2 h3⟩

/-- What is told of the line end at i behind what was scanned. -/
structure EndAt (g : Nat → UInt8) (q m i : Nat) : Prop where
  lt : i < m
  no : NoEnd (fun j => g (q + j)) i
  yes : isEnd (g (q + i)) = true

theorem LineIn.cellAt {g : Nat → UInt8} {b off P0 S0 m pb : Nat} {w w1 : World} (h : LineIn g b off P0 S0 m pb w) (hb : Below (pb + 1) w w1) (i : Nat) (hi : i < m) :
    w1.cell? ⟨b, off + P0 + (i + S0), none⟩ = some (.int .u8 (g (P0 + S0 + i)).toNat) := by
  have := h.bpb
  have h1 := (h.ba.below hb (by omega)) (P0 + S0 + i) (by omega)
  rw [show off + (P0 + S0 + i) = off + P0 + (i + S0) by omega] at h1
  exact h1

set_option maxHeartbeats 400000 in
/-- A CR at the very end, more bytes to come: the line is not whole. -/
theorem line_wait (A : AnySaid) (g : Nat → UInt8) (b off P0 S0 m pb i : Nat) (w : World) (H : LineIn g b off P0 S0 m pb w)
    (E : EndAt g (P0 + S0) m i) (hcr : g (P0 + S0 + i) = 13) (hlast : i + 1 = m) :
    Calls Tryd.prog 10 #[.pointer (some ⟨pb, 0, none⟩), .bool false] w fun e w' => e = .returned (.tuple #[.slice none 0 0, .bool false]) ∧
      w'.cell? ⟨pb, 2, none⟩ = some (.int .i64 P0) ∧ w'.cell? ⟨pb, 3, none⟩ = some (.int .i64 ((i + S0 : Nat) : Int)) ∧ Below pb w w' := by
  have hle := H.le
  have hm := H.pos
  have h0 := H.h0
  have h2 := H.h2
  have h3 := H.h3
  have f2 := H.f2
  have f3 := H.f3
  have hlt := E.lt
  have hne : ¬ P0 + (S0 + m) = P0 := by omega
  have hne2 : ¬ S0 + m = S0 := by omega
  have hP : P0 ≤ P0 + (S0 + m) := by omega
  have hi1 : (i : Int) + 1 ≤ (m : Int) := by omega
  have hi2 : (m : Int) ≤ (i : Int) + 1 := by omega
  clear hlast
  go_enter Tryd.func10, Tryd.ntmps10
  go_wp2
  go_quiet (fail)
  go_wp2_with fail
  refine (H.any A nq).mono ?_
  rintro e w1 ⟨r, rfl, hf, hb⟩
  obtain rfl : r = (i : Int) := hf.of_some E.lt E.no E.yes
  have h2' := (hb.cell (p := ⟨pb, 2, none⟩) (Nat.lt_succ_self _)).trans h2
  have h3' := (hb.cell (p := ⟨pb, 3, none⟩) (Nat.lt_succ_self _)).trans h3
  have f2' := (hb.frozen (p := ⟨pb, 2, none⟩) (Nat.lt_succ_self _)).trans f2
  have f3' := (hb.frozen (p := ⟨pb, 3, none⟩) (Nat.lt_succ_self _)).trans f3
  have hci : w1.cell? ⟨b, off + P0 + (i + S0), none⟩ = some (.int .u8 13) := by
    have := H.cellAt hb i E.lt
    rw [hcr] at this
    exact this
  have HB : Hid (Below (pb + 1) w w1) := hb
  clear hf hb
  go_wp2
  go_ret2
  exact ⟨rfl, end_scan HB.out h2 h3⟩

set_option maxHeartbeats 400000 in
/-- A LF. -/
theorem line_lf (A : AnySaid) (g : Nat → UInt8) (b off P0 S0 m pb i : Nat) (final : Bool) (w : World) (H : LineIn g b off P0 S0 m pb w)
    (E : EndAt g (P0 + S0) m i) (hlf : g (P0 + S0 + i) = 10) :
    Calls Tryd.prog 10 #[.pointer (some ⟨pb, 0, none⟩), .bool final] w fun e w' => e = .returned (.tuple #[.slice (some ⟨b, off + P0, none⟩) (i + S0) (S0 + m), .bool true]) ∧
      w'.cell? ⟨pb, 2, none⟩ = some (.int .i64 ((P0 + (i + S0 + 1) : Nat) : Int)) ∧ w'.cell? ⟨pb, 3, none⟩ = some (.int .i64 0) ∧ Below pb w w' := by
  have hle := H.le
  have hm := H.pos
  have h0 := H.h0
  have h2 := H.h2
  have h3 := H.h3
  have f2 := H.f2
  have f3 := H.f3
  have hlt := E.lt
  have hne : ¬ P0 + (S0 + m) = P0 := by omega
  have hne2 : ¬ S0 + m = S0 := by omega
  have hP : P0 ≤ P0 + (S0 + m) := by omega
  go_enter Tryd.func10, Tryd.ntmps10
  go_wp2
  go_quiet (fail)
  go_wp2_with fail
  refine (H.any A nq).mono ?_
  rintro e w1 ⟨r, rfl, hf, hb⟩
  obtain rfl : r = (i : Int) := hf.of_some E.lt E.no E.yes
  have h2' := (hb.cell (p := ⟨pb, 2, none⟩) (Nat.lt_succ_self _)).trans h2
  have h3' := (hb.cell (p := ⟨pb, 3, none⟩) (Nat.lt_succ_self _)).trans h3
  have f2' := (hb.frozen (p := ⟨pb, 2, none⟩) (Nat.lt_succ_self _)).trans f2
  have f3' := (hb.frozen (p := ⟨pb, 3, none⟩) (Nat.lt_succ_self _)).trans f3
  have hci : w1.cell? ⟨b, off + P0 + (i + S0), none⟩ = some (.int .u8 10) := by
    have := H.cellAt hb i E.lt
    rw [hlf] at this
    exact this
  have HB : Hid (Below (pb + 1) w w1) := hb
  clear hf hb
  go_wp2
  go_ret2
  exact ⟨rfl, end_both HB.out h2 h3⟩

set_option maxHeartbeats 400000 in
/-- A CR at the very end, nothing to come. -/
theorem line_crfin (A : AnySaid) (g : Nat → UInt8) (b off P0 S0 m pb i : Nat) (w : World) (H : LineIn g b off P0 S0 m pb w)
    (E : EndAt g (P0 + S0) m i) (hcr : g (P0 + S0 + i) = 13) (hlast : i + 1 = m) :
    Calls Tryd.prog 10 #[.pointer (some ⟨pb, 0, none⟩), .bool true] w fun e w' => e = .returned (.tuple #[.slice (some ⟨b, off + P0, none⟩) (i + S0) (S0 + m), .bool true]) ∧
      w'.cell? ⟨pb, 2, none⟩ = some (.int .i64 ((P0 + (i + S0 + 1) : Nat) : Int)) ∧ w'.cell? ⟨pb, 3, none⟩ = some (.int .i64 0) ∧ Below pb w w' := by
  have hle := H.le
  have hm := H.pos
  have h0 := H.h0
  have h2 := H.h2
  have h3 := H.h3
  have f2 := H.f2
  have f3 := H.f3
  have hlt := E.lt
  have hne : ¬ P0 + (S0 + m) = P0 := by omega
  have hne2 : ¬ S0 + m = S0 := by omega
  have hP : P0 ≤ P0 + (S0 + m) := by omega
  have hi1 : (i : Int) + 1 ≤ (m : Int) := by omega
  have hi2 : (m : Int) ≤ (i : Int) + 1 := by omega
  clear hlast
  go_enter Tryd.func10, Tryd.ntmps10
  go_wp2
  go_quiet (fail)
  go_wp2_with fail
  refine (H.any A nq).mono ?_
  rintro e w1 ⟨r, rfl, hf, hb⟩
  obtain rfl : r = (i : Int) := hf.of_some E.lt E.no E.yes
  have h2' := (hb.cell (p := ⟨pb, 2, none⟩) (Nat.lt_succ_self _)).trans h2
  have h3' := (hb.cell (p := ⟨pb, 3, none⟩) (Nat.lt_succ_self _)).trans h3
  have f2' := (hb.frozen (p := ⟨pb, 2, none⟩) (Nat.lt_succ_self _)).trans f2
  have f3' := (hb.frozen (p := ⟨pb, 3, none⟩) (Nat.lt_succ_self _)).trans f3
  have hci : w1.cell? ⟨b, off + P0 + (i + S0), none⟩ = some (.int .u8 13) := by
    have := H.cellAt hb i E.lt
    rw [hcr] at this
    exact this
  have HB : Hid (Below (pb + 1) w w1) := hb
  clear hf hb
  go_wp2
  go_ret2
  have hev : ((P0 + (i + S0 + 1) : Nat) : Int) = (P0 : Int) + ((S0 : Int) + (m : Int)) := by omega
  rw [hev]
  exact ⟨rfl, end_both HB.out h2 h3⟩

set_option maxHeartbeats 400000 in
/-- A CR and a LF. -/
theorem line_crlf (A : AnySaid) (g : Nat → UInt8) (b off P0 S0 m pb i : Nat) (final : Bool) (w : World) (H : LineIn g b off P0 S0 m pb w)
    (E : EndAt g (P0 + S0) m i) (hcr : g (P0 + S0 + i) = 13) (hmore : i + 1 < m) (hnx : g (P0 + S0 + (i + 1)) = 10) :
    Calls Tryd.prog 10 #[.pointer (some ⟨pb, 0, none⟩), .bool final] w fun e w' => e = .returned (.tuple #[.slice (some ⟨b, off + P0, none⟩) (i + S0) (S0 + m), .bool true]) ∧
      w'.cell? ⟨pb, 2, none⟩ = some (.int .i64 ((P0 + (i + S0 + 2) : Nat) : Int)) ∧ w'.cell? ⟨pb, 3, none⟩ = some (.int .i64 0) ∧ Below pb w w' := by
  have hle := H.le
  have hm := H.pos
  have h0 := H.h0
  have h2 := H.h2
  have h3 := H.h3
  have f2 := H.f2
  have f3 := H.f3
  have hlt := E.lt
  have hne : ¬ P0 + (S0 + m) = P0 := by omega
  have hne2 : ¬ S0 + m = S0 := by omega
  have hP : P0 ≤ P0 + (S0 + m) := by omega
  have hi1 : (i : Int) + 1 < (m : Int) := by omega
  go_enter Tryd.func10, Tryd.ntmps10
  go_wp2
  go_quiet (fail)
  go_wp2_with fail
  refine (H.any A nq).mono ?_
  rintro e w1 ⟨r, rfl, hf, hb⟩
  obtain rfl : r = (i : Int) := hf.of_some E.lt E.no E.yes
  have h2' := (hb.cell (p := ⟨pb, 2, none⟩) (Nat.lt_succ_self _)).trans h2
  have h3' := (hb.cell (p := ⟨pb, 3, none⟩) (Nat.lt_succ_self _)).trans h3
  have f2' := (hb.frozen (p := ⟨pb, 2, none⟩) (Nat.lt_succ_self _)).trans f2
  have f3' := (hb.frozen (p := ⟨pb, 3, none⟩) (Nat.lt_succ_self _)).trans f3
  have hci : w1.cell? ⟨b, off + P0 + (i + S0), none⟩ = some (.int .u8 13) := by
    have := H.cellAt hb i E.lt
    rw [hcr] at this
    exact this
  have hcn : w1.cell? ⟨b, off + P0 + (i + S0 + 1), none⟩ = some (.int .u8 (g (P0 + S0 + (i + 1))).toNat) := by
    have := H.cellAt hb (i + 1) hmore
    rw [show i + 1 + S0 = i + S0 + 1 by omega] at this
    exact this
  rw [hnx] at hcn
  have HB : Hid (Below (pb + 1) w w1) := hb
  clear hf hb
  go_wp2
  go_ret2
  exact ⟨rfl, end_both HB.out h2 h3⟩

set_option maxHeartbeats 400000 in
/-- A CR, no LF behind it. -/
theorem line_cr (A : AnySaid) (g : Nat → UInt8) (b off P0 S0 m pb i : Nat) (final : Bool) (w : World) (H : LineIn g b off P0 S0 m pb w)
    (E : EndAt g (P0 + S0) m i) (hcr : g (P0 + S0 + i) = 13) (hmore : i + 1 < m) (hnx : g (P0 + S0 + (i + 1)) ≠ 10) :
    Calls Tryd.prog 10 #[.pointer (some ⟨pb, 0, none⟩), .bool final] w fun e w' => e = .returned (.tuple #[.slice (some ⟨b, off + P0, none⟩) (i + S0) (S0 + m), .bool true]) ∧
      w'.cell? ⟨pb, 2, none⟩ = some (.int .i64 ((P0 + (i + S0 + 1) : Nat) : Int)) ∧ w'.cell? ⟨pb, 3, none⟩ = some (.int .i64 0) ∧ Below pb w w' := by
  have hle := H.le
  have hm := H.pos
  have h0 := H.h0
  have h2 := H.h2
  have h3 := H.h3
  have f2 := H.f2
  have f3 := H.f3
  have hlt := E.lt
  have hne : ¬ P0 + (S0 + m) = P0 := by omega
  have hne2 : ¬ S0 + m = S0 := by omega
  have hP : P0 ≤ P0 + (S0 + m) := by omega
  have hi1 : (i : Int) + 1 < (m : Int) := by omega
  have hnx' : (((g (P0 + S0 + (i + 1))).toNat : Int) == 10) = false := by
    rw [beq_eq_false_iff_ne]; intro e; exact hnx (UInt8.toNat.inj (by simp; omega))
  go_enter Tryd.func10, Tryd.ntmps10
  go_wp2
  go_quiet (fail)
  go_wp2_with fail
  refine (H.any A nq).mono ?_
  rintro e w1 ⟨r, rfl, hf, hb⟩
  obtain rfl : r = (i : Int) := hf.of_some E.lt E.no E.yes
  have h2' := (hb.cell (p := ⟨pb, 2, none⟩) (Nat.lt_succ_self _)).trans h2
  have h3' := (hb.cell (p := ⟨pb, 3, none⟩) (Nat.lt_succ_self _)).trans h3
  have f2' := (hb.frozen (p := ⟨pb, 2, none⟩) (Nat.lt_succ_self _)).trans f2
  have f3' := (hb.frozen (p := ⟨pb, 3, none⟩) (Nat.lt_succ_self _)).trans f3
  have hci : w1.cell? ⟨b, off + P0 + (i + S0), none⟩ = some (.int .u8 13) := by
    have := H.cellAt hb i E.lt
    rw [hcr] at this
    exact this
  have hcn : w1.cell? ⟨b, off + P0 + (i + S0 + 1), none⟩ = some (.int .u8 (g (P0 + S0 + (i + 1))).toNat) := by
    have := H.cellAt hb (i + 1) hmore
    rw [show i + 1 + S0 = i + S0 + 1 by omega] at this
    exact this
  have HB : Hid (Below (pb + 1) w w1) := hb
  clear hf hb
  go_wp2
  go_ret2
  exact ⟨rfl, end_both HB.out h2 h3⟩
end Go.Proofs.Qxb6000122aDoor
