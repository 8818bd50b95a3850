import Derived.Test.Qxb6606095aDoorLaw
import Derived.Test.Qxb6606095aDoorRows
import Derived.Test.Qxb6606095aDoorTie
import Derived.Test.Qxb6606095aDoorCards
import Derived.ProofKit
import Derived.OpenShut
import Derived.ShutString
import Derived.ChangeMaps5
import Derived.ChangeOld
import Derived.Lay
import Derived.PinnedBridge
import Derived.Lib.LaidU8
import Derived.HandedShaped
import Derived.Shelf.Vars
import Derived.SevenTiedAt
namespace Go.Proofs.Qxb6606095aDoor
open Go.ChangeShapes Go.WideShapes Go.ChangeAt Go.RowKit

theorem own : ownKnob Tryd.prog.godebug = none := by kernel_rfl

/-- The wrap with the listed variables AND the world's shape handed on. -/
theorem returns_and_shaped {H : Type} {enc : TypeId × Value → H} {a : Assume} {C : Checked} {os : Os} {f : FuncId} {fn : Func} {s : ChangeSpec} {conds : List PathCond} {apart fresh handsOn again : Bool} {X : World → Array Value → Prop}
    (hX : ∀ (w w' : World) (args : Array Value), w.heap = w'.heap → X w args → X w' args)
    (own : ownKnob C.prog.godebug = none) (started : os.Started) (noInit : C.prog.inits.idxOf? f = none) (hfn : C.prog.funcs[f]? = some fn)
    (witness : ∃ (w : World) (tape : Tape) (i : Input), w.os = os ∧ (w.forCall tape i).Shaped C.prog ∧ i.vars = [] ∧ Input.okWide C.prog (w.forCall tape i) .any w.heap.size f i ∧
      ((s.pre enc C.prog fn conds apart (w.forCall tape i).memory i.args ∧ X (w.forCall tape i).memory i.args) ∧ sizedMet enc C.prog fn (OpenSpec.ofChange s) apart (w.forCall tape i).memory i.args) ∧ a.holds C.prog (lone (Frame.enter C.prog f i.args .normal) [] (w.forCall tape i)))
    (contract : ∀ (W : World) (base : Nat) (args : Array Value) (ds gs : List (DataW H)) (before : List MemPlace),
      (∀ (j : Nat) t v, fn.params[j]? = some t → args[j]? = some v → Value.okWide C.prog W .any base t v) →
      DataW.Whole enc C.prog fn.params.toList s.vars apart W args.toList ds gs before → X W args → W.ShapedOpen C.prog →
      Calls C.prog f args W fun e W' => ∃ v, e = .returned v ∧ s.post enc C.prog fn apart fresh handsOn again W args v W') :
    ReturnsInHanded a C os f .any (fun w args => (s.pre enc C.prog fn conds apart w args ∧ X w args) ∧ sizedMet enc C.prog fn (OpenSpec.ofChange s) apart w args) (s.post enc C.prog fn apart fresh handsOn again) := by
  refine returnsInHanded_of_calls own started noInit witness ?_
  intro w tape i _ hsh _ hok hpre _
  obtain ⟨_, _, _, fn', hfn', _, _, _, _, hval⟩ := hok
  have e : fn' = fn := Option.some.inj (hfn'.symm.trans hfn)
  subst e
  obtain ⟨⟨⟨ds, gs, before, hw, _⟩, hx⟩, _⟩ := hpre
  have hw' := DataW.Whole.of_heap (w' := w.forCall tape i) (by rfl) hw
  refine (contract (w.forCall tape i) w.heap.size i.args ds gs before hval hw' (hX _ _ _ (by rfl) hx) hsh).mono fun e W' ⟨v, he, hp⟩ => ?_
  subst he
  exact ChangeSpec.post_blind hp

def laidL : List (String × DataW Unit) := Rows.fnDecimalFloatTextParseRoundTripRow.laid
/-- The table's name, out of the row's own cell. -/
def nmPow : String := Rows.fnDecimalFloatTextParseRoundTripRow.named.getD 0 ""
theorem pow_eq : (Rows.laid_internal_strconv_uint64pow10 : DataW Unit) = Lib.tabData .u64 Lib.pow10Tab := by kernel_rfl

theorem block_of_var {P : Program} {w : World} {name : String} {g : Nat} {cs : Array Value} (hg : P.globalNamed name = some g) (h : w.var? P name = some cs) : ∃ t fr, w.heap[g]? = some (.cells cs t fr) := by
  unfold World.var? at h
  rw [hg] at h
  simp only [Option.bind_some] at h
  split at h
  · rename_i hb
    cases h
    exact ⟨_, _, hb⟩
  · cases h

/-- The library's variables, out of what the row lists and the world's shape. -/
theorem env_of {W : World} (hL : laidMet Tryd.prog laidL W) (hS : W.ShapedOpen Tryd.prog) : Env W := by
  have r : Lib.VarReads Tryd.prog W nmPow (Lib.tabData .u64 Lib.pow10Tab) := by
    rw [← pow_eq]
    exact Lib.laidMet.reads hL (.tail _ (.tail _ (.head _)))
  have n5 : Tryd.prog.globalNamed nmPow = some 5 := by kernel_rfl
  have y5 : (Tryd.prog.globals[5]?).map (·.type) = some 108 := by kernel_rfl
  have c23 : Tryd.prog.cellsOf 77 = 1 := by kernel_rfl
  have cT : Tryd.prog.cellsOf 108 = 20 := by kernel_rfl
  obtain ⟨g, t, cs, fuel, p, hg, hty, hvar, hd⟩ := r
  obtain rfl := Option.some.inj (n5.symm.trans hg)
  obtain rfl := Option.some.inj (y5.symm.trans hty)
  have hcs := Lib.cells_of_tab Tryd.underlying108 Tryd.underlying77 c23 cT hd
  obtain ⟨t, fr, hb⟩ := block_of_var hg hvar
  have hcs' : cs = (Lib.pow10Tab.map fun z => Value.int .u64 z).toArray := by rw [← hcs]
  subst hcs'
  refine ⟨⟨t, fr, hb⟩, ?_, ?_⟩
  · exact cell_of_shapedOpen_int (t := 3) (zero := #[.int .i64 0]) hS (by rw [Tryd.globals_size]; decide) (by kernel_rfl) rfl (by kernel_rfl) (by kernel_rfl) Tryd.underlying3
  · have := (Array.getElem?_eq_some_iff.1 hb).1
    omega

set_option maxRecDepth 100000 in
theorem lifted (os : Os) (started : os.Started) (H : Type) (enc : TypeId × Value → H) :
    ReturnsInHanded {} Tryd.checked os 6 .any (fun w args => (Rows.fnDecimalFloatTextParseRoundTripSpec.pre enc Tryd.prog Tryd.f6 [] false w args ∧ laidMetH Tryd.prog laidL w) ∧ sizedMet enc Tryd.prog Tryd.f6 (OpenSpec.ofChange Rows.fnDecimalFloatTextParseRoundTripSpec) false w args)
      (Rows.fnDecimalFloatTextParseRoundTripSpec.post enc Tryd.prog Tryd.f6 false true false false) := by
  refine returns_and_shaped (C := Tryd.checked) (X := fun w _ => laidMetH Tryd.prog laidL w) (fun _ _ _ hh h => h.of_heap hh) own started (by kernel_rfl) Tryd.func6
    (ChangeSpec.witness_shaped (enc := enc) (C := Tryd.checked) (os := os) (X := fun w _ => laidMetH Tryd.prog laidL w) false (World.laidAll Tryd.prog os laidL) #[.bool false, .string ⟨#[]⟩, .int .i64 0] 8 (World.laidAll_os _ _ _)
      (World.shaped_of_ZipB (by kernel_rfl) (by kernel_rfl)) (by kernel_rfl) (by kernel_rfl) (by kernel_rfl)
      (by rw [MakeChecks.laidMetH_plain _ _ _ (by kernel_rfl)]; exact laidMet_laidAll _ (by kernel_rfl) (by kernel_rfl))) ?_
  intro W base args ds gs before hval0 hW hL hS
  have hval : ∀ (j : Nat) t v, Tryd.f6.params[j]? = some t → args[j]? = some v → Value.okWide Tryd.prog W .any base t v := hval0
  have hW' := hW
  obtain ⟨p, q, hA0, hV, rfl, _, _⟩ := hW
  have hA : DataW.TrodAll enc Tryd.prog W 0 (fun _ => true) true Tryd.f6.params.toList args.toList ds p := hA0
  rw [Tryd.params6] at hA hval
  obtain ⟨v0, vs0, d0, ds0, p0, q0, hargs, rfl, rfl, h0, r0⟩ := trodAll_cons hA
  obtain ⟨v1, vs1, d1, ds1, p1, q1, rfl, rfl, rfl, h1, r1⟩ := trodAll_cons r0
  obtain ⟨v2, vs2, d2, ds2, p2, q2, rfl, rfl, rfl, h2, r2⟩ := trodAll_cons r1
  obtain ⟨rfl, rfl, rfl⟩ := trodAll_nil r2
  obtain rfl : args = #[v0, v1, v2] := by cases args; simp_all
  obtain ⟨rfl, rfl⟩ := trodVars_none hV
  obtain ⟨a0, rfl, rfl, rfl⟩ := open_bool Tryd.underlying4 (hval 0 4 v0 rfl rfl) h0
  obtain ⟨a1, rfl, rfl, rfl, w1⟩ := ChangeMaps.open_string Tryd.underlying9 (hval 1 9 v1 rfl rfl) h1
  obtain ⟨a2, rfl, rfl, rfl, w2⟩ := open_int Tryd.underlying3 (hval 2 3 v2 rfl rfl) h2
  clear hA0 hval0
  rw [MakeChecks.laidMetH_plain _ _ _ (by kernel_rfl)] at hL
  have hE := env_of hL hS
  refine (law a0 a1 a2 W hE).mono fun e W' ⟨he, bel⟩ => ?_
  subst he
  exact ⟨_, rfl, _, _, _, [], _, [], hW', trodAll_mk1 (shut_bool Tryd.underlying4 _), (trodAll_cons_mk (shut_bool Tryd.underlying4 _) (trodAll_cons_mk (ChangeMaps.shut_string Tryd.underlying9 w1) (trodAll_cons_mk (shut_int Tryd.underlying3 w2) trodAll_mk0))), rfl, bel.frame _, fun h => by cases h⟩

theorem row_holds : Rows.FnDecimalFloatTextParseRoundTripSaid :=
  OpenClaim.holds_of_wide 6 Tryd.f6 rfl rfl rfl rfl rfl rfl rfl ⟨rfl, rfl, rfl, rfl, rfl⟩ rfl rfl rfl rfl rfl (by kernel_rfl) Tryd.func6 (by kernel_rfl)
    (of_decide_eq_true (by kernel_rfl)) (by unfold Func.isWrapper; first | (rw [if_pos (by decide +kernel)]; kernel_rfl) | (rw [if_neg (by decide +kernel)]; exact ⟨rfl, rfl⟩))
    (fun os started H enc _ => lifted os started H enc)

/-- THE STATEMENT: the tied card. -/
theorem fnDecimalFloatTextParseRoundTrip_card : Rows.FnDecimalFloatTextParseRoundTripCardSaid :=
  Claim7.holds_tied_plain_at .later [] [.data, .data, .data, .data, .sentinel, .sentinel, .pinned] true (true, "e50fe8c0e3120d1ee1538a888285c247198afa98e246547f3dff56aecc87995a") true
    row_holds (fun _ h => by cases h) (by kernel_rfl) (fun _ h => by cases h) fnDecimalFloatTextParseRoundTrip_row_tie rfl ⟨rfl, rfl⟩ (by kernel_rfl) rfl
    (fun f fn hf hfn => by
      obtain rfl : f = 6 := Option.some.inj ((show Tryd.prog.funcNamed Rows.fnDecimalFloatTextParseRoundTripRow.func = some 6 by kernel_rfl).symm.trans hf) |>.symm
      obtain rfl : fn = Tryd.f6 := (Option.some.inj (Tryd.func6.symm.trans hfn)).symm
      exact ⟨by kernel_rfl, fun j t ht => by
        rw [Tryd.params6] at ht
        have hm : t ∈ [4, 9, 3] := by simpa using Array.mem_of_getElem? ht
        have hall : ([4, 9, 3].all fun u => !Tryd.prog.wantsStandIn u) = true := by kernel_rfl
        exact (show Tryd.prog.wantsStandIn t = false by simpa using List.all_eq_true.1 hall t hm)⟩)
    (by kernel_rfl)
end Go.Proofs.Qxb6606095aDoor
