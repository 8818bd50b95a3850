import Derived.Test.Qxb6000122aDoorShort
namespace Go.Proofs.Qxb6000122aDoor
open Go.RowKit

theorem any_any : AnySaid := by
  intro g n b off c w hn h0 hcap hb h3 hE hc
  by_cases h1 : n = 1
  · subst h1
    have hc0 := hc 0 h0
    rw [Nat.add_zero] at hc0
    by_cases hl : (g 0).toNat < 128
    · refine (any_one_low b off c (g 0) w hl hc0).mono ?_
      rintro e w' ⟨he, rfl⟩
      refine ⟨_, he, ?_, Below.refl _ _⟩
      cases hE0 : isEnd (g 0)
      · exact .inl ⟨rfl, (NoEnd.zero g).succ hE0⟩
      · exact .inr ⟨0, rfl, by omega, NoEnd.zero g, hE0⟩
    · refine (any_one_high b off c (g 0) w hl hc0).mono ?_
      rintro e w' ⟨he, hb'⟩
      refine ⟨_, he, .inl ⟨rfl, noEnd_high fun j hj => ?_⟩, hb'⟩
      obtain rfl : j = 0 := by omega
      omega
  · by_cases h8 : n ≤ 8
    · exact any_short g n b off c w h8 (by omega) hcap hb h3 hE hc
    · exact any_long g n b off c w hn (by omega) hb hc

/-- The parser that ZZLine makes. -/
def parser (a : Option Addr) (n c : Nat) (st P0 S0 : Int) : Obj := .cells #[.slice a n c, .int .i64 st, .int .i64 P0, .int .i64 S0, .bool false, .string { data := #[] }, .slice none 0 0] 33

set_option maxHeartbeats 400000 in
/-- ZZLine does what 'line' does with a parser of its own. -/
theorem zz_of_line (a : Option Addr) (n c : Nat) (P0 S0 : Int) (final : Bool) (w : World) (lv : Value) (ok : Bool) (np ns : Int)
    (hl : Calls Tryd.prog 10 #[.pointer (some ⟨w.heap.size, 0, none⟩), .bool final] (w.alloc (parser a n c 0 P0 S0)) fun e w' => e = .returned (.tuple #[lv, .bool ok]) ∧
      w'.cell? ⟨w.heap.size, 2, none⟩ = some (.int .i64 np) ∧ w'.cell? ⟨w.heap.size, 3, none⟩ = some (.int .i64 ns) ∧ Below w.heap.size (w.alloc (parser a n c 0 P0 S0)) w') :
    Calls Tryd.prog 7 #[.slice a n c, .int .i64 P0, .int .i64 S0, .bool final] w fun e w' =>
      e = .returned (.tuple #[lv, .bool ok, .int .i64 np, .int .i64 ns]) ∧ Below w.heap.size w w' := by
  have HL : Hid _ := hl
  clear hl
  go_enter Tryd.func7, Tryd.ntmps7
  go_wp2_with fail
  refine Calls.mono HL.out ?_
  rintro e w1 ⟨rfl, h2, h3, hb⟩
  have HB : Hid (Below w.heap.size w w1) := ((Below.refl _ _).alloc (Nat.le_refl _) _).trans hb
  clear hb
  go_wp2
  go_quiet (fail)
  go_wp2
  refine bodyPost_ret (v := .tuple #[lv, .bool ok, .int .i64 np, .int .i64 ns]) (by simp [results, Tryd.results7, go_sem]) rfl ⟨rfl, ?_⟩
  exact HB.out.trans (below_drewN' _ _ _)

theorem par_cell (w : World) (a : Option Addr) (n c : Nat) (st P0 S0 : Int) :
    (w.alloc (parser a n c st P0 S0)).cell? ⟨w.heap.size, 0, none⟩ = some (.slice a n c) ∧ (w.alloc (parser a n c st P0 S0)).cell? ⟨w.heap.size, 2, none⟩ = some (.int .i64 P0) ∧
    (w.alloc (parser a n c st P0 S0)).cell? ⟨w.heap.size, 3, none⟩ = some (.int .i64 S0) := by
  refine ⟨?_, ?_, ?_⟩ <;> (unfold parser; rw [World.cell?_alloc_at _ _ _ _ rfl]; rfl)
theorem par_frozen (w : World) (o : Obj) (j : Nat) (h : ∃ c t, o = .cells c t) : (w.alloc o).frozen? ⟨w.heap.size, j, none⟩ = false := by
  obtain ⟨c, t, rfl⟩ := h
  simp [go_sem]

/-- ZZLine at an empty buffer. -/
theorem zz_empty (a : Option Addr) (final : Bool) (w : World) :
    Calls Tryd.prog 7 #[.slice a 0 0, .int .i64 0, .int .i64 0, .bool final] w fun e w' =>
      e = .returned (.tuple #[.slice none 0 0, .bool false, .int .i64 0, .int .i64 0]) ∧ Below w.heap.size w w' := by
  obtain ⟨c0, c2, c3⟩ := par_cell w a 0 0 0 0 0
  exact zz_of_line a 0 0 0 0 final w _ _ _ _ (line_empty a w.heap.size final _ c0 c2 c3 (par_frozen w _ 3 ⟨_, _, rfl⟩))

/-- A buffer in memory: n bytes g at ⟨b, off⟩, no spare room. -/
structure Buf (g : Nat → UInt8) (n b off : Nat) (w : World) : Prop where
  le : n ≤ 1048576
  b3 : 3 ≤ w.heap.size
  bw : b < w.heap.size
  env : Env w
  ba : BA w b off g n
theorem Buf.below {g : Nat → UInt8} {n b off : Nat} {w w' : World} (h : Buf g n b off w) (hb : Below w.heap.size w w') : Buf g n b off w' :=
  ⟨h.le, Nat.le_trans h.b3 hb.size, Nat.lt_of_lt_of_le h.bw hb.size, h.env.below hb h.b3, h.ba.below hb h.bw⟩

theorem Buf.line {g : Nat → UInt8} {b off P0 S0 m : Nat} {w : World} (h : Buf g (P0 + (S0 + m)) b off w) (hm : 0 < m) (st : Int) :
    LineIn g b off P0 S0 m w.heap.size (w.alloc (parser (some ⟨b, off, none⟩) (P0 + (S0 + m)) (P0 + (S0 + m)) st P0 S0)) := by
  have hb : Below w.heap.size w (w.alloc (parser (some ⟨b, off, none⟩) (P0 + (S0 + m)) (P0 + (S0 + m)) st P0 S0)) := (Below.refl _ _).alloc (Nat.le_refl _) _
  obtain ⟨c0, c2, c3⟩ := par_cell w (some ⟨b, off, none⟩) (P0 + (S0 + m)) (P0 + (S0 + m)) st P0 S0
  exact ⟨h.le, hm, h.b3, h.bw, by simp, h.env.below hb h.b3, h.ba.below hb h.bw, c0, c2, c3, par_frozen w _ 2 ⟨_, _, rfl⟩, par_frozen w _ 3 ⟨_, _, rfl⟩⟩

/-- The bytes of the line end at i. -/
def elen (g : Nat → UInt8) (n i : Nat) : Nat := if g i = 13 ∧ i + 1 < n ∧ g (i + 1) = 10 then 2 else 1
/-- The line end at i is whole. -/
def whole (g : Nat → UInt8) (n i : Nat) (final : Bool) : Bool := final || decide (i + 1 < n) || g i == 10
/-- i is the first line end from q on, below n. -/
structure Fst (g : Nat → UInt8) (n q i : Nat) : Prop where
  ge : q ≤ i
  lt : i < n
  no : ∀ j, q ≤ j → j < i → isEnd (g j) = false
  yes : isEnd (g i) = true

/-- ZZLine: no line end from P0 + S0 on. -/
theorem zzN (g : Nat → UInt8) (n b off P0 S0 : Nat) (final : Bool) (w : World) (h : Buf g n b off w) (hq : P0 + S0 ≤ n)
    (hno : ∀ j, P0 + S0 ≤ j → j < n → isEnd (g j) = false) :
    Calls Tryd.prog 7 #[.slice (some ⟨b, off, none⟩) n n, .int .i64 P0, .int .i64 S0, .bool final] w fun e w' =>
      e = .returned (.tuple #[.slice none 0 0, .bool false, .int .i64 P0, .int .i64 ((n - P0 : Nat) : Int)]) ∧ Below w.heap.size w w' := by
  by_cases hf : P0 + S0 = n
  · obtain ⟨c0, c2, c3⟩ := par_cell w (some ⟨b, off, none⟩) n n 0 P0 S0
    exact zz_of_line _ n n P0 S0 final w _ _ _ _ (line_full b off n P0 S0 w.heap.size final _ h.le hf c0 c2 c3 (par_frozen w _ 3 ⟨_, _, rfl⟩))
  · obtain ⟨m, rfl⟩ : ∃ m, n = P0 + (S0 + m) := ⟨n - P0 - S0, by omega⟩
    rw [Nat.add_sub_cancel_left]
    exact zz_of_line _ _ _ P0 S0 final w _ _ _ _ (line_miss any_any g b off P0 S0 m w.heap.size final _ (h.line (by omega) 0) (fun j hj => hno _ (by omega) (by omega)))

theorem Fst.endAt {g : Nat → UInt8} {P0 S0 m i : Nat} (h : Fst g (P0 + (S0 + m)) (P0 + S0) i) : EndAt g (P0 + S0) m (i - (P0 + S0)) := by
  have h1 := h.ge
  have h2 := h.lt
  refine ⟨by omega, fun j hj => h.no _ (by omega) (by omega), ?_⟩
  rw [show P0 + S0 + (i - (P0 + S0)) = i by omega]
  exact h.yes

/-- ZZLine: the first line end from P0 + S0 on is a CR at the very end, and more may come. -/
theorem zzW (g : Nat → UInt8) (n b off P0 S0 i : Nat) (final : Bool) (w : World) (h : Buf g n b off w) (hi : Fst g n (P0 + S0) i) (hw : whole g n i final = false) :
    Calls Tryd.prog 7 #[.slice (some ⟨b, off, none⟩) n n, .int .i64 P0, .int .i64 S0, .bool final] w fun e w' =>
      e = .returned (.tuple #[.slice none 0 0, .bool false, .int .i64 P0, .int .i64 ((i - P0 : Nat) : Int)]) ∧ Below w.heap.size w w' := by
  have h1 := hi.ge
  have h2 := hi.lt
  obtain ⟨m, rfl⟩ : ∃ m, n = P0 + (S0 + m) := ⟨n - P0 - S0, by omega⟩
  simp only [whole, Bool.or_eq_false_iff, decide_eq_false_iff_not, beq_eq_false_iff_ne] at hw
  obtain ⟨⟨rfl, hl⟩, h10⟩ := hw
  have hcr : g i = 13 := (isEnd_cases hi.yes).resolve_right h10
  have hx := line_wait any_any g b off P0 S0 m w.heap.size (i - (P0 + S0)) _ (h.line (by omega) 0) hi.endAt (by rw [show P0 + S0 + (i - (P0 + S0)) = i by omega]; exact hcr) (by omega)
  rw [show i - (P0 + S0) + S0 = i - P0 by omega] at hx
  exact zz_of_line _ _ _ P0 S0 false w _ _ _ _ hx

/-- ZZLine: the first line end from P0 + S0 on is whole. -/
theorem zzH (g : Nat → UInt8) (n b off P0 S0 i : Nat) (final : Bool) (w : World) (h : Buf g n b off w) (hi : Fst g n (P0 + S0) i) (hw : whole g n i final = true) :
    Calls Tryd.prog 7 #[.slice (some ⟨b, off, none⟩) n n, .int .i64 P0, .int .i64 S0, .bool final] w fun e w' =>
      e = .returned (.tuple #[.slice (some ⟨b, off + P0, none⟩) (i - P0) (n - P0), .bool true, .int .i64 ((i + elen g n i : Nat) : Int), .int .i64 0]) ∧ Below w.heap.size w w' := by
  have h1 := hi.ge
  have h2 := hi.lt
  obtain ⟨m, rfl⟩ : ∃ m, n = P0 + (S0 + m) := ⟨n - P0 - S0, by omega⟩
  have hL := h.line (m := m) (by omega) 0
  have hE := hi.endAt
  have ei : P0 + S0 + (i - (P0 + S0)) = i := by omega
  have es : i - (P0 + S0) + S0 = i - P0 := by omega
  have ep1 : P0 + (i - P0 + 1) = i + 1 := by omega
  have ep2 : P0 + (i - P0 + 2) = i + 2 := by omega
  rw [Nat.add_sub_cancel_left]
  by_cases h10 : g i = 10
  · have hx := line_lf any_any g b off P0 S0 m w.heap.size (i - (P0 + S0)) final _ hL hE (by rw [ei]; exact h10)
    have he : elen g (P0 + (S0 + m)) i = 1 := by unfold elen; rw [if_neg (fun hh => by rw [h10] at hh; exact absurd hh.1 (by decide))]
    rw [es, ep1] at hx
    rw [he]
    exact zz_of_line _ _ _ P0 S0 final w _ _ _ _ hx
  · have hcr : g i = 13 := (isEnd_cases hi.yes).resolve_right h10
    by_cases hl : i + 1 < P0 + (S0 + m)
    · have en : P0 + S0 + (i - (P0 + S0) + 1) = i + 1 := by omega
      by_cases hn : g (i + 1) = 10
      · have hx := line_crlf any_any g b off P0 S0 m w.heap.size (i - (P0 + S0)) final _ hL hE (by rw [ei]; exact hcr) (by omega) (by rw [en]; exact hn)
        have he : elen g (P0 + (S0 + m)) i = 2 := by unfold elen; rw [if_pos ⟨hcr, hl, hn⟩]
        rw [es, ep2] at hx
        rw [he]
        exact zz_of_line _ _ _ P0 S0 final w _ _ _ _ hx
      · have hx := line_cr any_any g b off P0 S0 m w.heap.size (i - (P0 + S0)) final _ hL hE (by rw [ei]; exact hcr) (by omega) (by rw [en]; exact hn)
        have he : elen g (P0 + (S0 + m)) i = 1 := by unfold elen; rw [if_neg (fun hh => hn hh.2.2)]
        rw [es, ep1] at hx
        rw [he]
        exact zz_of_line _ _ _ P0 S0 final w _ _ _ _ hx
    · have hfin : final = true := by
        simp only [whole, Bool.or_eq_true, decide_eq_true_eq, beq_iff_eq] at hw
        rcases hw with (hw | hw) | hw
        · exact hw
        · exact absurd hw hl
        · exact absurd hw h10
      subst hfin
      have hx := line_crfin any_any g b off P0 S0 m w.heap.size (i - (P0 + S0)) _ hL hE (by rw [ei]; exact hcr) (by omega)
      have he : elen g (P0 + (S0 + m)) i = 1 := by unfold elen; rw [if_neg (fun hh => hl hh.2.1)]
      rw [es, ep1] at hx
      rw [he]
      exact zz_of_line _ _ _ P0 S0 true w _ _ _ _ hx
end Go.Proofs.Qxb6000122aDoor
