import Derived.Test.Qxb6000122aDoorAny
namespace Go.Proofs.Qxb6000122aDoor
open Go.RowKit

/-- What the walk of the long road is told of the program besides. -/
structure Facts2 (P : Program) : Prop extends Facts P where
  t21 : P.underlying 21 = some (.int .i32)
  a21 : ∀ w, (isAgg 21).run P w = .ok false w
  z21 : ∀ w, (Go.sizeOf 21).run P w = .ok 1 w
  v21 : ∀ w, (zeroValue 21).run P w = .ok (.int .i32 0) w
  t22 : P.underlying 22 = some (.slice 5)
  a22 : ∀ w, (isAgg 22).run P w = .ok false w
  z22 : ∀ w, (Go.sizeOf 22).run P w = .ok 1 w
  f13 : P.funcs[11]? = some Tryd.f11
  e16 : ∀ args w, (callFunc 14 args).run P w = .ok (.enter 14 args) w
  e17 : ∀ args w, (callFunc 15 args).run P w = .ok (.enter 15 args) w
  e18 : ∀ args w, (callFunc 16 args).run P w = .ok (.enter 16 args) w
  c16 : ∀ (n : Int) (w : World), Calls P 14 #[.int .i64 n] w fun e w' => e = .returned (.bool (decide (8 < n))) ∧ w' = w
  c17 : ∀ (w : World), Calls P 15 #[.string crlf] w fun e w' => e = .returned (.tuple #[.agg (Lib.setCells ends), .bool true]) ∧ w' = w.alloc (.cells (Lib.setCells ends) 41)
  c18 : ∀ (b : Nat) (x : UInt8) (v : Bool) (w : World), w.cell? ⟨b, x.toNat, none⟩ = some (.bool v) → Calls P 16 #[.pointer (some ⟨b, 0, none⟩), .int .u8 x.toNat] w fun e w' => e = .returned (.bool v) ∧ w' = w

theorem facts2 : Facts2 Tryd.prog where
  toFacts := facts
  t21 := Tryd.underlying21
  a21 := Tryd.isAgg21
  z21 := Tryd.sizeOf21
  v21 := Tryd.zeroValue21
  t22 := Tryd.underlying22
  a22 := Tryd.isAgg22
  z22 := Tryd.sizeOf22
  f13 := Tryd.func11
  e16 := Tryd.call14
  e17 := Tryd.call15
  e18 := Tryd.call16
  c16 := useSet_any
  c17 := makeSet
  c18 := set_contains

theorem ends_contains (x : UInt8) : ends.contains x = isEnd x := by
  have h : ends.contains x = (x == 13 || x == 10) := by simp only [ends, List.contains_cons, List.contains_nil, Bool.or_false]
  exact h

set_option maxHeartbeats 2000000 in
set_option maxRecDepth 1000000 in
theorem any_long_gen {P : Program} (L : Facts2 P) (g : Nat → UInt8) (n : Nat) (b off c : Nat) (w : World) (hs : n ≤ 1048576) (h8 : 8 < n) (hb : b < w.heap.size) (hc : BA w b off g n) :
    Calls P 11 #[.slice (some ⟨b, off, none⟩) n c, .string crlf] w fun e w' => ∃ r, e = .returned (.int .i64 r) ∧ IsFirst g n r ∧ Below w.heap.size w w' := by
  have hemp : crlf.toList.isEmpty = false := by rw [Lib.toList_data]; rfl
  have hcs : crlf.size = 2 := rfl
  have hn1 : ((n : Int) == 1) = false := beq_eq_false_iff_ne.2 (by omega)
  have h8z : decide ((8 : Int) < (n : Int)) = true := decide_eq_true (by omega)
  have hsc : (storeCells ⟨w.heap.size + 1, 0, none⟩ (Lib.setCells ends).toList 0).run P ((w.alloc (.cells (Lib.setCells ends) 41)).alloc (.cells (Lib.setCells []) 41)) = .ok () ((w.alloc (.cells (Lib.setCells ends) 41)).alloc (.cells (Lib.setCells ends) 41)) := by
    have := run_storeCells_new (P := P) (w.alloc (.cells (Lib.setCells ends) 41)) 41 (Lib.setCells []) (Lib.setCells ends) (by rw [Lib.setCells_size]; exact L.i41) (by rw [Lib.setCells_size, Lib.setCells_size]) (Lib.setCells_one _)
    simpa using this
  have hsz := Lib.setCells_size ends
  have hcellAt : ∀ x : UInt8, ((w.alloc (.cells (Lib.setCells ends) 41)).alloc (.cells (Lib.setCells ends) 41)).cell? ⟨w.heap.size + 1, x.toNat, none⟩ = some (.bool (isEnd x)) := fun x => by
    rw [World.cell?_alloc_at _ _ _ _ (by simp), Lib.setCells_at, ends_contains]
  have HC : Aside (∀ x : UInt8, ((w.alloc (.cells (Lib.setCells ends) 41)).alloc (.cells (Lib.setCells ends) 41)).cell? ⟨w.heap.size + 1, x.toNat, none⟩ = some (.bool (isEnd x))) := hcellAt
  clear hcellAt
  have t3 := L.t3; have a3 := L.a3; have z3 := L.z3; have v3 := L.v3
  have t4 := L.t4; have a4 := L.a4; have z4 := L.z4; have v4 := L.v4
  have t5 := L.t5; have a5 := L.a5; have z5 := L.z5; have v5 := L.v5
  have t9 := L.t9; have a9 := L.a9; have z9 := L.z9
  have t21 := L.t21; have a21 := L.a21; have z21 := L.z21; have v21 := L.v21
  have t22 := L.t22; have a22 := L.a22; have z22 := L.z22
  have t41 := L.t41
  have v41 := L.v41
  have e16 := L.e16
  have e17 := L.e17
  have e18 := L.e18
  go_enter L.f13, Tryd.ntmps11
  go_wp2_with fail
  refine (L.c16 _ _).mono ?_
  rintro e w' ⟨rfl, hw⟩
  rw [hw, h8z]
  go_wp2_with fail
  refine (L.c17 _).mono ?_
  rintro e w' ⟨rfl, hw'⟩
  rw [hw']
  clear hw hw'
  go_wp2_with fail
  simp only [L.z41, Result.andThen, ↓reduceIte, hsc]
  rw [Oper.upon_skip]
  clear hsc
  go_wp2_with fail
  go_loopg [62] n (fun q s8 wx => ∃ i : Nat, i + q = n ∧ s8 = .int .i64 i ∧ wx = ((w.alloc (.cells (Lib.setCells ends) 41)).alloc (.cells (Lib.setCells ends) 41)) ∧ NoEnd g i)
  case atStart => exact ⟨0, by omega, rfl, rfl, NoEnd.zero _⟩
  case round =>
    obtain ⟨i, hig, rfl, rfl, hno⟩ := hrel
    have HN : Aside (NoEnd g i) := hno
    clear hno
    have hB : Below w.heap.size w ((w.alloc (.cells (Lib.setCells ends) 41)).alloc (.cells (Lib.setCells ends) 41)) := ((Below.refl _ _).alloc (Nat.le_refl _) _).alloc (by simp) _
    cases gk with
    | zero =>
      obtain rfl : i = n := by omega
      have hiz : ¬ ((i : Int) < (i : Int)) := by omega
      go_wp2
      go_ret
      exact ⟨_, rfl, .inl ⟨rfl, HN.out⟩, hB⟩
    | succ q =>
      have hi : i < n := by omega
      have hiz : (i : Int) < (n : Int) := by omega
      have hck := hc i hi
      have hcx := HC.out (g i)
      cases hE : isEnd (g i) <;> rw [hE] at hcx
      · have HE : Hid (isEnd (g i) = false) := hE
        clear hE
        go_wp2_with fail
        refine (L.c18 _ (g i) _ _ hcx).mono ?_
        rintro e w' ⟨rfl, hw⟩
        rw [hw]
        clear hw
        go_wp2_with fail
        go_roundg q
        case measure => omega
        case rel => exact ⟨i + 1, by omega, by first | rfl | simp, rfl, HN.out.succ HE.out⟩
      · have HE : Hid (isEnd (g i) = true) := hE
        clear hE
        go_wp2_with fail
        refine (L.c18 _ (g i) _ _ hcx).mono ?_
        rintro e w' ⟨rfl, hw⟩
        rw [hw]
        clear hw
        go_wp2_with fail
        go_ret
        exact ⟨_, rfl, .inr ⟨i, rfl, hi, HN.out, HE.out⟩, hB⟩

theorem any_long (g : Nat → UInt8) (n : Nat) (b off c : Nat) (w : World) (hs : n ≤ 1048576) (h8 : 8 < n) (hb : b < w.heap.size) (hc : BA w b off g n) :
    Calls Tryd.prog 11 #[.slice (some ⟨b, off, none⟩) n c, .string ⟨#[13, 10]⟩] w fun e w' => ∃ r, e = .returned (.int .i64 r) ∧ IsFirst g n r ∧ Below w.heap.size w w' :=
  any_long_gen facts2 g n b off c w hs h8 hb hc
end Go.Proofs.Qxb6000122aDoor
