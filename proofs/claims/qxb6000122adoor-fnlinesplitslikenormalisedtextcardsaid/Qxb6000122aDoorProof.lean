import Derived.Test.Qxb6000122aDoorLaw
import Derived.Test.Qxb6000122aDoorRows
import Derived.Test.Qxb6000122aDoorTie
import Derived.Test.Qxb6000122aDoorCards
import Derived.ProofKit
import Derived.OpenShut
import Derived.ShutString
import Derived.ChangeOld
import Derived.Lay
import Derived.PinnedBridge
import Derived.Lib.LaidU8
import Derived.HandedShaped
import Derived.Shelf.Vars
import Derived.SevenTiedAt
namespace Go.Proofs.Qxb6000122aDoor
open Go.ChangeShapes Go.WideShapes Go.ChangeAt Go.RowKit

theorem own : ownKnob Tryd.prog.godebug = none := by kernel_rfl
theorem laidOut : laidOutB Tryd.prog = true := by kernel_rfl

/-- The wrap with the listed variables AND the world's shape handed on. -/
theorem returns_and_shaped {H : Type} {enc : TypeId × Value → H} {a : Assume} {C : Checked} {os : Os} {f : FuncId} {fn : Func} {s : ChangeSpec} {conds : List PathCond} {apart fresh handsOn again : Bool} {X : World → Array Value → Prop}
    (hX : ∀ (w w' : World) (args : Array Value), w.heap = w'.heap → X w args → X w' args)
    (own : ownKnob C.prog.godebug = none) (started : os.Started) (noInit : C.prog.inits.idxOf? f = none) (hfn : C.prog.funcs[f]? = some fn)
    (witness : ∃ (w : World) (tape : Tape) (i : Input), w.os = os ∧ (w.forCall tape i).Shaped C.prog ∧ i.vars = [] ∧ Input.okWide C.prog (w.forCall tape i) .any w.heap.size f i ∧
      ((s.pre enc C.prog fn conds apart (w.forCall tape i).memory i.args ∧ X (w.forCall tape i).memory i.args) ∧ sizedMet enc C.prog fn (OpenSpec.ofChange s) apart (w.forCall tape i).memory i.args) ∧ a.holds C.prog (lone (Frame.enter C.prog f i.args .normal) [] (w.forCall tape i)))
    (contract : ∀ (W : World) (base : Nat) (args : Array Value) (ds gs : List (DataW H)) (before : List MemPlace),
      (∀ (j : Nat) t v, fn.params[j]? = some t → args[j]? = some v → Value.okWide C.prog W .any base t v) →
      DataW.Whole enc C.prog fn.params.toList s.vars apart W args.toList ds gs before → X W args → W.ShapedOpen C.prog →
      Calls C.prog f args W fun e W' => ∃ v, e = .returned v ∧ s.post enc C.prog fn apart fresh handsOn again W args v W') :
    ReturnsInHanded a C os f .any (fun w args => (s.pre enc C.prog fn conds apart w args ∧ X w args) ∧ sizedMet enc C.prog fn (OpenSpec.ofChange s) apart w args) (s.post enc C.prog fn apart fresh handsOn again) := by
  refine returnsInHanded_of_calls own started noInit witness ?_
  intro w tape i _ hsh _ hok hpre _
  obtain ⟨_, _, _, fn', hfn', _, _, _, _, hval⟩ := hok
  have e : fn' = fn := Option.some.inj (hfn'.symm.trans hfn)
  subst e
  obtain ⟨⟨⟨ds, gs, before, hw, _⟩, hx⟩, _⟩ := hpre
  have hw' := DataW.Whole.of_heap (w' := w.forCall tape i) (by rfl) hw
  refine (contract (w.forCall tape i) w.heap.size i.args ds gs before hval hw' (hX _ _ _ (by rfl) hx) hsh).mono fun e W' ⟨v, he, hp⟩ => ?_
  subst he
  exact ChangeSpec.post_blind hp

def laidL : List (String × DataW Unit) := Rows.fnLineSplitsLikeNormalisedTextRow.laid
/-- The names of the two tables, out of the row's own cell. -/
def nmFirst : String := Rows.fnLineSplitsLikeNormalisedTextRow.named.getD 1 ""
def nmAcc : String := Rows.fnLineSplitsLikeNormalisedTextRow.named.getD 2 ""
theorem acc_eq : (Rows.laid_unicode_utf8_acceptRanges : DataW Unit) = Lib.acceptData := by kernel_rfl

/-- The library's variables, out of what the row lists and the world's shape. -/
theorem env_of {W : World} (hL : laidMet Tryd.prog laidL W) (hS : W.ShapedOpen Tryd.prog) : Env W := by
  have r3 : Lib.VarReads Tryd.prog W nmFirst Lib.firstData := by
    have := Lib.laidMet.reads hL (n := nmFirst) (d := Rows.laid_unicode_utf8_first) (.tail _ (.head _))
    rw [← Pinned.utf8First_eq]
    exact this
  have r4 : Lib.VarReads Tryd.prog W nmAcc Lib.acceptData := by
    rw [← acc_eq]
    exact Lib.laidMet.reads hL (.head _)
  have n3 : Tryd.prog.globalNamed nmFirst = some 1 := by kernel_rfl
  have n4 : Tryd.prog.globalNamed nmAcc = some 2 := by kernel_rfl
  have y3 : (Tryd.prog.globals[1]?).map (·.type) = some 56 := by kernel_rfl
  have y4 : (Tryd.prog.globals[2]?).map (·.type) = some 59 := by kernel_rfl
  have c5 : Tryd.prog.cellsOf 5 = 1 := by kernel_rfl
  have c55 : Tryd.prog.cellsOf 56 = 256 := by kernel_rfl
  have c57 : Tryd.prog.cellsOf 58 = 2 := by kernel_rfl
  refine ⟨?_, fun c hc => ?_, fun i hi => ?_⟩
  · exact cell_of_shapedOpen_int (t := 3) (zero := #[.int .i64 0]) hS (by rw [Tryd.globals_size]; decide) (by kernel_rfl) rfl (by kernel_rfl) (by kernel_rfl) Tryd.underlying3
  · obtain ⟨g, t, cs, fuel, p, hg, hty, hvar, hd⟩ := r3
    obtain rfl := Option.some.inj (n3.symm.trans hg)
    obtain rfl := Option.some.inj (y3.symm.trans hty)
    have hcs := Lib.cells_of_tab Tryd.underlying56 Tryd.underlying5 c5 c55 hd
    have := World.var?_cell hg hvar c
    rw [this, ← Array.getElem?_toList, hcs]
    simp [Lib.firstTab, hc]
  · obtain ⟨g, t, cs, fuel, p, hg, hty, hvar, hd⟩ := r4
    obtain rfl := Option.some.inj (n4.symm.trans hg)
    obtain rfl := Option.some.inj (y4.symm.trans hty)
    obtain ⟨fuel', d, q, hdi, he⟩ := Lib.array_elem Tryd.underlying59 hd i hi
    simp only [List.getElem?_map, List.getElem?_range hi, Option.map_some, Option.some.injEq] at hdi
    subst hdi
    rw [c57] at he
    have hcs := Lib.ints_of_struct Tryd.underlying58 (fun j f hj => by
      match j, hj with
      | 0, hj => simp at hj; subst hj; exact ⟨Tryd.underlying5, rfl, c5⟩
      | 1, hj => simp at hj; subst hj; exact ⟨Tryd.underlying5, rfl, c5⟩
      | j + 2, hj => simp at hj) (by rw [c57]; rfl) he
    have e0 := congrArg (·[0]?) hcs
    have e1 := congrArg (·[1]?) hcs
    simp only [List.getElem?_take, List.getElem?_drop] at e0 e1
    constructor
    · rw [World.var?_cell hg hvar (2 * i), ← Array.getElem?_toList]
      simpa [Nat.mul_comm] using e0
    · rw [World.var?_cell hg hvar (2 * i + 1), ← Array.getElem?_toList]
      simpa [Nat.mul_comm] using e1

theorem byte_back {z : Int} (h : (Lit.int .u8 z).wf = true) : ((z.toNat.toUInt8).toNat : Int) = z := by
  have hx : 0 ≤ z ∧ z ≤ 255 := by simpa [Lit.wf, IntKind.min, IntKind.max, IntKind.signed, IntKind.bits] using h
  rw [Nat.toUInt8_eq, UInt8.toNat_ofNat']
  omega

set_option maxHeartbeats 1000000 in
set_option maxRecDepth 100000 in
/-- More than 2^20 bytes. -/
theorem law_long (a : Option Addr) (n c : Nat) (w : World) (hn : n ≤ maxLen) (h : ¬ n ≤ 1048576) :
    Calls Tryd.prog 3 #[.slice a n c] w fun e w' => e = .returned (.bool true) ∧ Below w.heap.size w w' := by
  go_enter Tryd.func3, Tryd.ntmps3
  go_wp2_with fail
  refine (zzBytes_any _ _ _ _ hn).mono ?_
  rintro e w' ⟨rfl, hw⟩
  rw [hw, decide_eq_false h]
  clear hw
  go_wp2
  go_ret
  exact ⟨rfl, Below.refl _ _⟩

set_option maxHeartbeats 1000000 in
set_option maxRecDepth 100000 in
/-- The nil buffer. -/
theorem law_nil (w : World) :
    Calls Tryd.prog 3 #[.slice none 0 0] w fun e w' => e = .returned (.bool true) ∧ Below w.heap.size w w' := by
  have hmk : ∀ W : World, (Instr.makeSlice 22 (.int .i64 0) (.int .i64 0)).run Tryd.prog W = .ok (.slice (some ⟨W.heap.size, 0, none⟩) 0 0) (W.alloc (.cells #[] 5)) := fun W => by
    obtain ⟨i0, hi, hz0, hz1, hz2⟩ := info_parts info5
    have h := run_make (P := Tryd.prog) W 22 5 i0 (.int .u8 0) Tryd.underlying22 hi hz0 .i64 .i64 0 0 (by omega) (by omega) (by omega) (by omega)
    rw [h]
    simp [madeCells, Array.range_zero']
  have q22 : ∀ (w : World) (a : Option Addr) (n c n' c' : Nat), (binOp .eql 22 (.slice a n c) (.slice none n' c')).run Tryd.prog w = .ok (.bool a.isNone) w := fun w a n c n' c' => Lib.run_eql_slice_nil w _ _ a n c n' c' Tryd.underlying22
  go_enter Tryd.func3, Tryd.ntmps3
  go_wp2_with fail
  refine (zzBytes_any _ _ _ _ (by unfold maxLen; omega)).mono ?_
  rintro e w' ⟨rfl, hw⟩
  rw [hw, decide_eq_true (by omega)]
  clear hw
  go_wp2_with fail
  refine (zzClone_nil _).mono ?_
  rintro e w' ⟨rfl, hw⟩
  rw [hw]
  clear hw
  go_wp2_with fail
  go_loop [3, 4] (fun v j => v = .slice (some ⟨w.heap.size, 0, none⟩) 0 0 ∧ j = .int .i64 0) (fun _ _ => 0)
  case atStart => exact ⟨rfl, rfl⟩
  case round =>
    obtain ⟨rfl, rfl⟩ := hrel
    go_wp2_with fail
    go_loopw [6, 7, 8, 9] (fun ps sc av kv w2 => ps = .int .i64 0 ∧ sc = .int .i64 0 ∧ av = .int .i64 0 ∧ kv = .int .i64 0 ∧ w2 = w.alloc (.cells #[] 5)) (fun _ _ _ _ _ => 0)
    case atStart => exact ⟨rfl, rfl, rfl, rfl, rfl⟩
    case round =>
      obtain ⟨rfl, rfl, rfl, rfl, rfl⟩ := hrel
      go_wp2_with fail
      go_loop [10, 11] (fun e t => e = .int .i64 (-1) ∧ t = .int .i64 0) (fun _ _ => 0)
      case atStart => exact ⟨rfl, rfl⟩
      case round =>
        obtain ⟨rfl, rfl⟩ := hrel
        go_wp2_with fail
        refine (zz_empty _ _ _).mono ?_
        rintro e w3 ⟨rfl, L3⟩
        have LL : Hid (Below w.heap.size w w3) := ((Below.refl _ _).alloc (Nat.le_refl _) _).trans (L3.mono (by simp))
        go_wp2
        go_ret
        exact ⟨rfl, LL.out⟩

theorem clone_any (g : Nat → UInt8) (n : Nat) (x : Addr) (c : Nat) (w : World) (hs : n ≤ 1048576) (hE : Env w) (h3 : 3 ≤ w.heap.size) (hc : ∀ j, j < n → x.block < w.heap.size ∧ w.cell? (x.add j) = some (.int .u8 (g j).toNat)) :
    Calls Tryd.prog 6 #[.slice (some x) n c] w fun e w' => ∃ b', e = .returned (.slice (some ⟨b', 0, none⟩) n n) ∧ Buf g n b' 0 w' ∧ Below w.heap.size w w' := by
  refine (zzClone_some g n x c w hs hc).mono ?_
  rintro e w' ⟨he, hba, hb, hsz⟩
  exact ⟨_, he, ⟨hs, Nat.le_trans h3 hb.size, hsz, hE.below hb h3, hba⟩, hb⟩

/-- THE LAW at whatever comes in. -/
theorem law (a : Option Addr) (len cap : Nat) (W : World) (hE : Env W) (h3 : 3 ≤ W.heap.size)
    (hr : (a = none ∧ len = 0 ∧ cap = 0) ∨ ∃ (x : Addr) (zs : List Int), a = some x ∧ len ≤ cap ∧ cap ≤ maxLen ∧ zs.length = cap ∧ (∀ i, i < zs.length → W.cell? (x.add i) = some (.int .u8 (zs.getD i 0))) ∧ (∀ n ∈ zs, (Lit.int .u8 n).wf = true)) :
    Calls Tryd.prog 3 #[.slice a len cap] W fun e W' => e = .returned (.bool true) ∧ Below W.heap.size W W' := by
  by_cases hbig : len ≤ 1048576
  · rcases hr with ⟨rfl, rfl, rfl⟩ | ⟨x, zs, rfl, hl, hm, hz, hcell, hwf⟩
    · exact law_nil W
    · refine law_main (fun j => (zs.getD j 0).toNat.toUInt8) len cap (some x) W hbig (clone_any (fun j => (zs.getD j 0).toNat.toUInt8) len x cap W hbig hE h3 (fun j hj => ?_))
      have hj' : j < zs.length := by omega
      have hcj := hcell j hj'
      have hwj : (Lit.int .u8 (zs.getD j 0)).wf = true := hwf _ (by simp [List.getD, List.getElem?_eq_getElem hj'])
      rw [byte_back hwj]
      refine ⟨?_, hcj⟩
      have hblk : (x.add j).block = x.block := by unfold Addr.add; split <;> rfl
      rw [← hblk]
      unfold World.cell? at hcj
      split at hcj
      · rename_i hb
        exact (Array.getElem?_eq_some_iff.1 hb).1
      · cases hcj
  · refine law_long a len cap W ?_ hbig
    rcases hr with ⟨rfl, rfl, rfl⟩ | ⟨x, zs, rfl, hl, hm, hz, hcell, hwf⟩
    · exact absurd (by omega) hbig
    · omega

theorem size3 {W : World} (hE : Env W) : 3 ≤ W.heap.size := by
  have := (hE.2.2 0 (by omega)).1
  unfold World.cell? at this
  split at this
  · rename_i hb
    have := (Array.getElem?_eq_some_iff.1 hb).1
    simp at this
    omega
  · cases this

set_option maxRecDepth 100000 in
theorem lifted (os : Os) (started : os.Started) (H : Type) (enc : TypeId × Value → H) :
    ReturnsInHanded {} Tryd.checked os 3 .any (fun w args => (Rows.fnLineSplitsLikeNormalisedTextSpec.pre enc Tryd.prog Tryd.f3 [] false w args ∧ laidMetH Tryd.prog laidL w) ∧ sizedMet enc Tryd.prog Tryd.f3 (OpenSpec.ofChange Rows.fnLineSplitsLikeNormalisedTextSpec) false w args)
      (Rows.fnLineSplitsLikeNormalisedTextSpec.post enc Tryd.prog Tryd.f3 false true false false) := by
  refine returns_and_shaped (C := Tryd.checked) (X := fun w _ => laidMetH Tryd.prog laidL w) (fun _ _ _ hh h => h.of_heap hh) own started (by kernel_rfl) Tryd.func3
    (ChangeSpec.witness_shaped (enc := enc) (C := Tryd.checked) (os := os) (X := fun w _ => laidMetH Tryd.prog laidL w) false (World.laidAll Tryd.prog os laidL) #[.slice none 0 0] 8 (World.laidAll_os _ _ _)
      (World.shaped_of_ZipB (by kernel_rfl) (by kernel_rfl)) (by kernel_rfl) (by kernel_rfl) (by kernel_rfl)
      (by rw [MakeChecks.laidMetH_plain _ _ _ (by kernel_rfl)]; exact laidMet_laidAll _ (by kernel_rfl) (by kernel_rfl))) ?_
  intro W base args ds gs before hval0 hW hL hS
  have hval : ∀ (j : Nat) t v, Tryd.f3.params[j]? = some t → args[j]? = some v → Value.okWide Tryd.prog W .any base t v := hval0
  have hW' := hW
  obtain ⟨p, q, hA0, hV, rfl, _, _⟩ := hW
  have hA : DataW.TrodAll enc Tryd.prog W 0 (fun _ => true) true Tryd.f3.params.toList args.toList ds p := hA0
  rw [Tryd.params3] at hA hval
  obtain ⟨v0, vs0, d0, ds0, p0, q0, hargs, rfl, rfl, h0, r0⟩ := trodAll_cons hA
  obtain ⟨rfl, rfl, rfl⟩ := trodAll_nil r0
  obtain rfl : args = #[v0] := by cases args; simp_all
  obtain ⟨rfl, rfl⟩ := trodVars_none hV
  obtain ⟨a0, len0, cap0, rfl⟩ := okWide_slice Tryd.underlying22 (hval 0 22 v0 rfl rfl)
  have k0 := h0
  have lt0 : ∀ x ∈ p0, x.block < W.heap.size := by obtain ⟨m, hm⟩ := k0; exact DataW.trod_lt m _ _ _ hm
  have w0 : (a0 = none ∧ len0 = 0 ∧ cap0 = 0) ∨ ∃ (x : Addr) (zs : List Int), a0 = some x ∧ len0 ≤ cap0 ∧ cap0 ≤ maxLen ∧ zs.length = cap0 ∧ (∀ i, i < zs.length → W.cell? (x.add i) = some (.int .u8 (zs.getD i 0))) ∧ (∀ n ∈ zs, (Lit.int .u8 n).wf = true) := by
    obtain ⟨fuel, hf⟩ := h0
    rcases open_ints Tryd.underlying22 Tryd.underlying5 (by kernel_rfl) hf with ⟨hcs, _⟩ | ⟨x, l, c, zs, hcs, _, hl, hm, hz, _, hcell, hwz⟩
    · simp [Value.cells] at hcs
      obtain ⟨rfl, rfl, rfl⟩ := hcs
      exact .inl ⟨rfl, rfl, rfl⟩
    · simp [Value.cells] at hcs
      obtain ⟨rfl, rfl, rfl⟩ := hcs
      exact .inr ⟨_, zs, rfl, hl, hm, by simpa using hz, hcell, hwz⟩
  clear hA0 hval0
  rw [MakeChecks.laidMetH_plain _ _ _ (by kernel_rfl)] at hL
  have hE := env_of hL hS
  refine (law a0 len0 cap0 W hE (size3 hE) w0).mono fun e W' ⟨he, bel⟩ => ?_
  subst he
  exact ⟨_, rfl, _, _, _, [], _, [], hW', trodAll_mk1 (shut_bool Tryd.underlying4 _), (trodAll_cons_mk (Below.trod laidOut (by kernel_rfl) (of_decide_eq_true (by kernel_rfl)) k0 bel lt0) trodAll_mk0), rfl, bel.frame _, fun h => by cases h⟩

theorem row_holds : Rows.FnLineSplitsLikeNormalisedTextSaid :=
  OpenClaim.holds_of_wide 3 Tryd.f3 rfl rfl rfl rfl rfl rfl rfl ⟨rfl, rfl, rfl, rfl, rfl⟩ rfl rfl rfl rfl rfl (by kernel_rfl) Tryd.func3 (by kernel_rfl)
    (of_decide_eq_true (by kernel_rfl)) (by unfold Func.isWrapper; first | (rw [if_pos (by decide +kernel)]; kernel_rfl) | (rw [if_neg (by decide +kernel)]; exact ⟨rfl, rfl⟩))
    (fun os started H enc _ => lifted os started H enc)

/-- THE STATEMENT: the tied card. -/
theorem fnLineSplitsLikeNormalisedText_card : Rows.FnLineSplitsLikeNormalisedTextCardSaid :=
  Claim7.holds_tied_plain_at .later [] [.data, .pinned] true (true, "8c64a758463e3d8a00f5bb85f7376b4503d62b7d3ceae8d8abea15dfbd1adc5e") false
    row_holds (fun _ h => by cases h) (by kernel_rfl) (fun _ h => by cases h) fnLineSplitsLikeNormalisedText_row_tie rfl ⟨rfl, rfl⟩ (by kernel_rfl) rfl
    (fun f fn hf hfn => by
      obtain rfl : f = 3 := Option.some.inj ((show Tryd.prog.funcNamed Rows.fnLineSplitsLikeNormalisedTextRow.func = some 3 by kernel_rfl).symm.trans hf) |>.symm
      obtain rfl : fn = Tryd.f3 := (Option.some.inj (Tryd.func3.symm.trans hfn)).symm
      exact ⟨by kernel_rfl, fun j t ht => by
        rw [Tryd.params3] at ht
        have hm : t ∈ [22] := by simpa using Array.mem_of_getElem? ht
        have hall : ([22].all fun u => !Tryd.prog.wantsStandIn u) = true := by kernel_rfl
        exact (show Tryd.prog.wantsStandIn t = false by simpa using List.all_eq_true.1 hall t hm)⟩)
    (by kernel_rfl)
end Go.Proofs.Qxb6000122aDoor
