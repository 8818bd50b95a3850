import Derived.Test.Qxb6606095aDoorPart
namespace Go.Proofs.Qxb6606095aDoor
open Go.RowKit

/-- Parse's two blocks: the result's at N, the working one at N + 1. -/
def PS (w0 : World) (N : Nat) (n : Bool) (w' : World) : Prop :=
  w'.cell? ⟨N, 0, none⟩ = some (.bool false) ∧ w'.cell? ⟨N, 1, none⟩ = some (.string ⟨#[]⟩) ∧ w'.cell? ⟨N, 2, none⟩ = some (.int .i64 0) ∧ w'.cell? ⟨N + 1, 0, none⟩ = some (.bool n) ∧
  w'.frozen? ⟨N, 0, none⟩ = false ∧ w'.frozen? ⟨N, 1, none⟩ = false ∧ w'.frozen? ⟨N, 2, none⟩ = false ∧ Hid (Below N w0 w' ∧ N + 1 < w'.heap.size)
theorem PS.new (w : World) (n : Bool) : PS w w.heap.size n ((w.alloc (.cells #[.bool false, .string ⟨#[]⟩, .int .i64 0] 28)).alloc (.cells #[.bool n, .string ⟨#[]⟩, .int .i64 0] 28)) :=
  ⟨by simp [go_sem], by simp [go_sem], by simp [go_sem], by simp [go_sem], by simp [go_sem], by simp [go_sem], by simp [go_sem], ⟨((Below.refl _ _).alloc (Nat.le_refl _) _).alloc (by simp) _, by simp⟩⟩
theorem PS.call {w0 w1 w2 : World} {N : Nat} {n : Bool} (h : PS w0 N n w1) (hb : Below w1.heap.size w1 w2) : PS w0 N n w2 := by
  obtain ⟨h0, h1, h2, h3, f0, f1, f2, hB, h4⟩ := h
  have h5 : N < w1.heap.size := by omega
  exact ⟨(hb.cell (p := ⟨N, 0, none⟩) h5).trans h0, (hb.cell (p := ⟨N, 1, none⟩) h5).trans h1, (hb.cell (p := ⟨N, 2, none⟩) h5).trans h2, (hb.cell (p := ⟨N + 1, 0, none⟩) h4).trans h3,
    (hb.frozen (p := ⟨N, 0, none⟩) h5).trans f0, (hb.frozen (p := ⟨N, 1, none⟩) h5).trans f1, (hb.frozen (p := ⟨N, 2, none⟩) h5).trans f2, ⟨hB.trans (hb.mono (Nat.le_of_lt h5)), Nat.lt_of_lt_of_le h4 hb.size⟩⟩
theorem PS.env {w0 w1 : World} {N : Nat} {n : Bool} (h : PS w0 N n w1) (hN : N = w0.heap.size) (hE : Env w0) : Env w1 := by
  subst hN
  exact hE.below h.2.2.2.2.2.2.2.1
theorem PS.drew {w0 w1 : World} {N : Nat} {n : Bool} (h : PS w0 N n w1) : PS w0 N n w1.drew := h.call (Below.refl _ _).drew
/-- The working block's sign, and what lies below. -/
def QS (w0 : World) (N : Nat) (n : Bool) (w' : World) : Prop := w'.cell? ⟨N + 1, 0, none⟩ = some (.bool n) ∧ Hid (Below N w0 w' ∧ N + 1 < w'.heap.size)
theorem PS.qs {w0 w1 : World} {N : Nat} {n : Bool} (h : PS w0 N n w1) : QS w0 N n w1 := ⟨h.2.2.2.1, h.2.2.2.2.2.2.2⟩
theorem QS.set {w0 w1 : World} {N : Nat} {n : Bool} (h : QS w0 N n w1) (i : Nat) (v : Value) : QS w0 N n (w1.setCell ⟨N, i, none⟩ v) := by
  obtain ⟨h0, h1, h2⟩ := h
  have hs : (w1.setCell ⟨N, i, none⟩ v).heap.size = w1.heap.size := by simp
  exact ⟨(World.cell?_of_block (w := w1) (Below.heap_setCell _ _ _ _ (by simp))).trans h0, ⟨h1.setCell (Nat.le_refl _) v, by rw [hs]; exact h2⟩⟩

theorem str_take (l : List UInt8) (p : Nat) : (str l).extract 0 p = str (l.take p) := by
  apply ByteArray.ext
  rw [ByteArray.data_extract]
  simp [str]
theorem str_drop (l : List UInt8) (p : Nat) : (str l).extract p (str l).size = str (l.drop p) := by
  apply ByteArray.ext
  rw [ByteArray.data_extract, str_size]
  simp [str]
  exact List.take_of_length_le (by simp)
theorem str_head (c : UInt8) (l : List UInt8) (h : 0 < (str (c :: l)).size) : (str (c :: l))[0]'h = c := by
  rw [← bytes_getElem (str (c :: l)) 0 h]
  simp [str]
theorem dig_mem {a b : List UInt8} (hW : Dig a) (hF : Dig b) (c : UInt8) (hc : c.toNat < 48 ∨ 57 < c.toNat) (h46 : (46 : UInt8) ≠ c) : ∀ x ∈ a ++ 46 :: b, x ≠ c := fun x hx => by
  rcases List.mem_append.1 hx with h | h
  · exact hW.no c hc x h
  · rcases List.mem_cons.1 h with h | h
    · rw [h]; exact h46
    · exact hF.no c hc x h

set_option maxHeartbeats 1000000 in
theorem parse_d0_f (a : UInt8) (A F D : List UInt8) (v0 : Bool) (v1 : ByteArray) (v2 : Int) (w : World) (hE : Env w) (hW : Dig (a :: A)) (hF : Dig F) (hF0 : 0 < F.length) (hlen : (a :: A).length + F.length ≤ 2000000) (hD : Lib.trimLeftB (a :: A ++ F) 48 = D) 
    (hv : ∀ w, Calls Tryd.prog 26 #[.bool false, .string (str D), .int .i64 (0 - F.length)] w fun en w' => en = .returned (.agg #[.bool v0, .string v1, .int .i64 v2]) ∧ Below w.heap.size w w') :
    Calls Tryd.prog 16 #[.string (str (sg false ++ (a :: A ++ 46 :: F)))] w fun e w' => e = .returned (.tuple #[.agg #[.bool v0, .string v1, .int .i64 v2], .bool true]) ∧ Below w.heap.size w w' := by
  have cP := hide (fun w => prefix_any false a (A ++ 46 :: F) w (hW.no 45 (by decide) a (List.mem_cons_self ..)))
  have hl : (a :: A ++ 46 :: F).length ≤ 2500000 := by simp at hlen ⊢; omega
  have h101 := dig_mem hW hF 101 (by decide) (by decide)
  have h69 := dig_mem hW hF 69 (by decide) (by decide)
  have c101 := hide (fun w hE => cut_miss_any 101 (a :: A ++ 46 :: F) w (by omega) h101 hE)
  have c69 := hide (fun w hE => cut_miss_any 69 (a :: A ++ 46 :: F) w (by omega) h69 hE)
  have c46 := hide (fun w hE => cut_hit_any 46 (a :: A) F w (by omega) (hW.no 46 (by decide)) hE)
  have cW := hide (fun w => allDig_any (a :: A) w (by omega) (by simp) hW)
  have cF := hide (fun w => allDig_any F w (by omega) hF0 hF)
  have cT := hide (fun w => trimL_any (a :: A ++ F) w)
  rw [hD, ← str_append] at cT
  have hfz : ((str F).size : Int) = F.length := by rw [str_size]
  rw [← hfz, Int.zero_sub] at hv
  have cN := hide hv
  have e1 : str [101] = ⟨#[101]⟩ := rfl
  have e3 : str [46] = ⟨#[46]⟩ := rfl
  have e4 : str [] = ⟨#[]⟩ := rfl
  rw [show a :: (A ++ 46 :: F) = (a :: A ++ 46 :: F) from rfl] at cP
  have e2 : str [69] = ⟨#[69]⟩ := rfl
  rw [e1, e4] at c101
  rw [e2, e4] at c69
  rw [e3] at c46
  have sW : (str (a :: A)).size ≤ 2000000 := by rw [str_size]; omega
  have sF : (str F).size ≤ 2000000 := by rw [str_size]; omega
  have sT : (str (sg false ++ (a :: A ++ 46 :: F))).size ≤ 3000000 := by rw [str_size]; simp [sg] at hlen ⊢; omega
  rw [show sg false ++ (a :: A ++ 46 :: F) = (a :: A ++ 46 :: F) from rfl] at cP sT ⊢
  generalize str (a :: A ++ 46 :: F) = Rs at *
  generalize str (a :: A) = Ws at *
  generalize str F = Fs at *
  generalize str D = Ds at *
  have HE := hide hE
  have HP := hide (PS.new w false)
  clear hE hv e1 e3 hD h101 hl hW hlen h69 e2 e4 hF hF0 hfz
  go_enter Tryd.func16, Tryd.ntmps16
  go_wp2_with fail
  refine Calls.mono (cP.out _) ?_
  rintro e wq ⟨rfl, hwq⟩
  rw [hwq]
  clear hwq wq
  go_wp2_with fail
  generalize ((w.alloc (.cells #[.bool false, .string ⟨#[]⟩, .int .i64 0] 28)).alloc (.cells #[.bool false, .string ⟨#[]⟩, .int .i64 0] 28)) = wS at HP ⊢
  obtain ⟨N, hN⟩ : ∃ N, N = w.heap.size := ⟨_, rfl⟩
  rw [← hN] at HP ⊢
  have HN := hide hN
  clear hN
  refine Calls.mono (c101.out _ (HP.out.env HN.out HE.out)) ?_
  rintro e w2 ⟨rfl, hB⟩
  have H2 := hide (HP.out.call hB)
  clear hB HP
  go_wp2_with fail
  refine Calls.mono (c69.out _ (H2.out.env HN.out HE.out)) ?_
  rintro e w3 ⟨rfl, hB⟩
  have H3 := hide (H2.out.call hB)
  clear hB H2
  go_wp2_with fail
  refine Calls.mono (c46.out _ (H3.out.env HN.out HE.out)) ?_
  rintro e w4 ⟨rfl, hB⟩
  have H4 := hide (H3.out.call hB)
  clear hB H3
  go_wp2_with fail
  refine Calls.mono (cW.out _) ?_
  rintro e wq ⟨rfl, hwq⟩
  rw [hwq]
  clear hwq wq
  go_wp2_with fail
  refine Calls.mono (cF.out _) ?_
  rintro e wq ⟨rfl, hwq⟩
  rw [hwq]
  clear hwq wq
  go_wp2_with fail
  have H5 := H4
  clear H4
  have HD := H5.out.drew
  have HQ := HD.qs
  have q1 : ¬ 9223372036854775807 < Ws.size + Fs.size := by omega
  have q2 : (Fs.size : Int) ≤ 2000000 := by omega
  have q3 : (0 : Int) ≤ Fs.size := by omega
  have q4 : IntKind.i64.wrap (-(Fs.size : Int)) = -(Fs.size : Int) := IntWalk.i64_in _ (by omega)
  go_region_held3 (fun w' => w'.cell? ⟨N + 1, 0, none⟩ = some (.bool false) ∧ Hid (Below N w w' ∧ N + 1 < w'.heap.size)) (first | assumption | exact QS.set (QS.set (QS.set ‹_› _ _) _ _) _ _)
    (first | (go_at_call 24; refine (cT.out _).mono ?_; rintro e w7 ⟨rfl, hw7⟩; rw [hw7]) | (go_at_call 26; refine (cN.out _).mono ?_; rintro e w6 ⟨rfl, hB6⟩; have HP6 := PS.call ‹PS _ _ _ _› hB6; have HQ6 := HP6.qs; obtain ⟨p0, p1, p2, p3, g0, g1, g2, hR6⟩ := HP6))
  have HF := hide (QS.set (QS.set (QS.set HQ6 0 (.bool v0)) 1 (.string v1)) 2 (.int .i64 v2)).2
  go_wp2
  refine bodyPost_ret (v := .tuple #[.agg #[.bool v0, .string v1, .int .i64 v2], .bool true]) (by simp [results, Tryd.results16, go_sem, p0, p1, p2]) rfl ⟨rfl, by rw [← HN.out]; exact HF.out.out.1⟩

set_option maxHeartbeats 1000000 in
theorem parse_d0_t (a : UInt8) (A F D : List UInt8) (v0 : Bool) (v1 : ByteArray) (v2 : Int) (w : World) (hE : Env w) (hW : Dig (a :: A)) (hF : Dig F) (hF0 : 0 < F.length) (hlen : (a :: A).length + F.length ≤ 2000000) (hD : Lib.trimLeftB (a :: A ++ F) 48 = D) 
    (hv : ∀ w, Calls Tryd.prog 26 #[.bool true, .string (str D), .int .i64 (0 - F.length)] w fun en w' => en = .returned (.agg #[.bool v0, .string v1, .int .i64 v2]) ∧ Below w.heap.size w w') :
    Calls Tryd.prog 16 #[.string (str (sg true ++ (a :: A ++ 46 :: F)))] w fun e w' => e = .returned (.tuple #[.agg #[.bool v0, .string v1, .int .i64 v2], .bool true]) ∧ Below w.heap.size w w' := by
  have cP := hide (fun w => prefix_any true a (A ++ 46 :: F) w (hW.no 45 (by decide) a (List.mem_cons_self ..)))
  have hl : (a :: A ++ 46 :: F).length ≤ 2500000 := by simp at hlen ⊢; omega
  have h101 := dig_mem hW hF 101 (by decide) (by decide)
  have h69 := dig_mem hW hF 69 (by decide) (by decide)
  have c101 := hide (fun w hE => cut_miss_any 101 (a :: A ++ 46 :: F) w (by omega) h101 hE)
  have c69 := hide (fun w hE => cut_miss_any 69 (a :: A ++ 46 :: F) w (by omega) h69 hE)
  have c46 := hide (fun w hE => cut_hit_any 46 (a :: A) F w (by omega) (hW.no 46 (by decide)) hE)
  have cW := hide (fun w => allDig_any (a :: A) w (by omega) (by simp) hW)
  have cF := hide (fun w => allDig_any F w (by omega) hF0 hF)
  have cT := hide (fun w => trimL_any (a :: A ++ F) w)
  rw [hD, ← str_append] at cT
  have hfz : ((str F).size : Int) = F.length := by rw [str_size]
  rw [← hfz, Int.zero_sub] at hv
  have cN := hide hv
  have e1 : str [101] = ⟨#[101]⟩ := rfl
  have e3 : str [46] = ⟨#[46]⟩ := rfl
  have e4 : str [] = ⟨#[]⟩ := rfl
  rw [show a :: (A ++ 46 :: F) = (a :: A ++ 46 :: F) from rfl] at cP
  have e2 : str [69] = ⟨#[69]⟩ := rfl
  rw [e1, e4] at c101
  rw [e2, e4] at c69
  rw [e3] at c46
  have sW : (str (a :: A)).size ≤ 2000000 := by rw [str_size]; omega
  have sF : (str F).size ≤ 2000000 := by rw [str_size]; omega
  have sT : (str (sg true ++ (a :: A ++ 46 :: F))).size ≤ 3000000 := by rw [str_size]; simp [sg] at hlen ⊢; omega
  have hTt : (str (sg true ++ (a :: A ++ 46 :: F))).extract 1 (str (sg true ++ (a :: A ++ 46 :: F))).size = str (a :: A ++ 46 :: F) := str_drop (45 :: (a :: A ++ 46 :: F)) 1
  have sT1 : (1 : Int) ≤ (str (sg true ++ (a :: A ++ 46 :: F))).size := by rw [str_size]; simp [sg]; omega
  generalize str (sg true ++ (a :: A ++ 46 :: F)) = T at *
  generalize str (a :: A ++ 46 :: F) = Rs at *
  generalize str (a :: A) = Ws at *
  generalize str F = Fs at *
  generalize str D = Ds at *
  have HE := hide hE
  have HP := hide (PS.new w true)
  clear hE hv e1 e3 hD h101 hl hW hlen h69 e2 e4 hF hF0 hfz
  go_enter Tryd.func16, Tryd.ntmps16
  go_wp2_with fail
  refine Calls.mono (cP.out _) ?_
  rintro e wq ⟨rfl, hwq⟩
  rw [hwq]
  clear hwq wq
  go_wp2_with fail
  go_region
  go_wp2_with fail
  have HPd := hide HP.out.drew
  clear HP
  have HP := HPd
  clear HPd
  generalize ((w.alloc (.cells #[.bool false, .string ⟨#[]⟩, .int .i64 0] 28)).alloc (.cells #[.bool true, .string ⟨#[]⟩, .int .i64 0] 28)).drew = wS at HP ⊢
  obtain ⟨N, hN⟩ : ∃ N, N = w.heap.size := ⟨_, rfl⟩
  rw [← hN] at HP ⊢
  have HN := hide hN
  clear hN
  refine Calls.mono (c101.out _ (HP.out.env HN.out HE.out)) ?_
  rintro e w2 ⟨rfl, hB⟩
  have H2 := hide (HP.out.call hB)
  clear hB HP
  go_wp2_with fail
  refine Calls.mono (c69.out _ (H2.out.env HN.out HE.out)) ?_
  rintro e w3 ⟨rfl, hB⟩
  have H3 := hide (H2.out.call hB)
  clear hB H2
  go_wp2_with fail
  refine Calls.mono (c46.out _ (H3.out.env HN.out HE.out)) ?_
  rintro e w4 ⟨rfl, hB⟩
  have H4 := hide (H3.out.call hB)
  clear hB H3
  go_wp2_with fail
  refine Calls.mono (cW.out _) ?_
  rintro e wq ⟨rfl, hwq⟩
  rw [hwq]
  clear hwq wq
  go_wp2_with fail
  refine Calls.mono (cF.out _) ?_
  rintro e wq ⟨rfl, hwq⟩
  rw [hwq]
  clear hwq wq
  go_wp2_with fail
  have H5 := H4
  clear H4
  have HD := H5.out.drew
  have HQ := HD.qs
  have q1 : ¬ 9223372036854775807 < Ws.size + Fs.size := by omega
  have q2 : (Fs.size : Int) ≤ 2000000 := by omega
  have q3 : (0 : Int) ≤ Fs.size := by omega
  have q4 : IntKind.i64.wrap (-(Fs.size : Int)) = -(Fs.size : Int) := IntWalk.i64_in _ (by omega)
  go_region_held3 (fun w' => w'.cell? ⟨N + 1, 0, none⟩ = some (.bool true) ∧ Hid (Below N w w' ∧ N + 1 < w'.heap.size)) (first | assumption | exact QS.set (QS.set (QS.set ‹_› _ _) _ _) _ _)
    (first | (go_at_call 24; refine (cT.out _).mono ?_; rintro e w7 ⟨rfl, hw7⟩; rw [hw7]) | (go_at_call 26; refine (cN.out _).mono ?_; rintro e w6 ⟨rfl, hB6⟩; have HP6 := PS.call ‹PS _ _ _ _› hB6; have HQ6 := HP6.qs; obtain ⟨p0, p1, p2, p3, g0, g1, g2, hR6⟩ := HP6))
  have HF := hide (QS.set (QS.set (QS.set HQ6 0 (.bool v0)) 1 (.string v1)) 2 (.int .i64 v2)).2
  go_wp2
  refine bodyPost_ret (v := .tuple #[.agg #[.bool v0, .string v1, .int .i64 v2], .bool true]) (by simp [results, Tryd.results16, go_sem, p0, p1, p2]) rfl ⟨rfl, by rw [← HN.out]; exact HF.out.out.1⟩
end Go.Proofs.Qxb6606095aDoor
