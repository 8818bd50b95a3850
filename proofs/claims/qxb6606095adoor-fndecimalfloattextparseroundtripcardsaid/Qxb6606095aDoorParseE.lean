import Derived.Test.Qxb6606095aDoorParse
namespace Go.Proofs.Qxb6606095aDoor
open Go.RowKit

set_option maxHeartbeats 1000000 in
theorem parse_dp_f (a : UInt8) (A F D : List UInt8) (b : UInt8) (X : List UInt8) (x : Int) (v0 : Bool) (v1 : ByteArray) (v2 : Int) (w : World) (hE : Env w) (hW : Dig (a :: A)) (hF : Dig F) (hF0 : 0 < F.length) (hlen : (a :: A).length + F.length ≤ 2000000) (hD : Lib.trimLeftB (a :: A ++ F) 48 = D) (hX : Dig (b :: X)) (hX9 : (b :: X).length ≤ 9) (hat : Lib.atoiAll (b :: X) = .ok x) (hx1 : -1000000000 ≤ x) (hx2 : x ≤ 1000000000) 
    (hv : ∀ w, Calls Tryd.prog 26 #[.bool false, .string (str D), .int .i64 (x - F.length)] w fun en w' => en = .returned (.agg #[.bool v0, .string v1, .int .i64 v2]) ∧ Below w.heap.size w w') :
    Calls Tryd.prog 16 #[.string (str (sg false ++ ((a :: A ++ 46 :: F) ++ 101 :: (b :: X))))] w fun e w' => e = .returned (.tuple #[.agg #[.bool v0, .string v1, .int .i64 v2], .bool true]) ∧ Below w.heap.size w w' := by
  have cP := hide (fun w => prefix_any false a (A ++ 46 :: F ++ 101 :: (b :: X)) w (hW.no 45 (by decide) a (List.mem_cons_self ..)))
  have hl : (a :: A ++ 46 :: F).length ≤ 2500000 := by simp at hlen ⊢; omega
  have h101 := dig_mem hW hF 101 (by decide) (by decide)
  have hr : (((a :: A ++ 46 :: F) ++ 101 :: (b :: X))).length ≤ 2600000 := by simp at hl hX9 ⊢; omega
  have c101 := hide (fun w hE => cut_hit_any 101 (a :: A ++ 46 :: F) (b :: X) w (by omega) h101 hE)
  have c46 := hide (fun w hE => cut_hit_any 46 (a :: A) F w (by omega) (hW.no 46 (by decide)) hE)
  have cW := hide (fun w => allDig_any (a :: A) w (by omega) (by simp) hW)
  have cF := hide (fun w => allDig_any F w (by omega) hF0 hF)
  have cT := hide (fun w => trimL_any (a :: A ++ F) w)
  rw [hD, ← str_append] at cT
  have hfz : ((str F).size : Int) = F.length := by rw [str_size]
  rw [← hfz] at hv
  have cN := hide hv
  have cX := hide (fun w => allDig_any (b :: X) w (by omega) (by simp) hX)
  have cZ := hide (fun w => trimL_any (b :: X) w)
  have sZ : (str (Lib.trimLeftB (b :: X) 48)).size ≤ 9 := by rw [str_size]; have := trimL_len (b :: X); omega
  have cA := hide (fun w => atoi_any (b :: X) x w (by simp at hX9 ⊢; omega) hat)
  have sX : 0 < (str (b :: X)).size := by rw [str_size]; simp
  obtain ⟨hXe, hXe2⟩ := toList_some _ sX
  have sXz : (0 : Int) < (str (b :: X)).size := by omega
  have sXz1 : (1 : Int) ≤ (str (b :: X)).size := by omega
  have sXb : (str (b :: X)).size ≤ 10 := by rw [str_size]; simp at hX9 ⊢; omega
  have hbd := hX b (List.mem_cons_self ..)
  have hX45 : ((((str (b :: X))[0]'sX).toNat : Int) == 45) = false := by rw [str_head]; exact beq_eq_false_iff_ne.2 (by omega)
  have hX43 : ((((str (b :: X))[0]'sX).toNat : Int) == 43) = false := by rw [str_head]; exact beq_eq_false_iff_ne.2 (by omega)
  have e1 : str [101] = ⟨#[101]⟩ := rfl
  have e3 : str [46] = ⟨#[46]⟩ := rfl
  rw [show a :: (A ++ 46 :: F ++ 101 :: (b :: X)) = ((a :: A ++ 46 :: F) ++ 101 :: (b :: X)) from rfl] at cP
  rw [e1] at c101
  rw [e3] at c46
  have sW : (str (a :: A)).size ≤ 2000000 := by rw [str_size]; omega
  have sF : (str F).size ≤ 2000000 := by rw [str_size]; omega
  have sT : (str (sg false ++ ((a :: A ++ 46 :: F) ++ 101 :: (b :: X)))).size ≤ 3000000 := by rw [str_size]; simp [sg] at hlen hX9 ⊢; omega
  rw [show sg false ++ ((a :: A ++ 46 :: F) ++ 101 :: (b :: X)) = ((a :: A ++ 46 :: F) ++ 101 :: (b :: X)) from rfl] at cP sT ⊢
  generalize str ((a :: A ++ 46 :: F) ++ 101 :: (b :: X)) = Rs at *
  generalize str (a :: A ++ 46 :: F) = Ms at *
  generalize str (a :: A) = Ws at *
  generalize str F = Fs at *
  generalize str D = Ds at *
  generalize str (Lib.trimLeftB (b :: X) 48) = Zs at *
  generalize str (b :: X) = Xs at *
  have HE := hide hE
  have HP := hide (PS.new w false)
  clear hE hv e1 e3 hD h101 hl hW hlen hF hF0 hfz hX hX9 hat hr hbd
  go_enter Tryd.func16, Tryd.ntmps16
  go_wp2_with fail
  refine Calls.mono (cP.out _) ?_
  rintro e wq ⟨rfl, hwq⟩
  rw [hwq]
  clear hwq wq
  go_wp2_with fail
  generalize ((w.alloc (.cells #[.bool false, .string ⟨#[]⟩, .int .i64 0] 28)).alloc (.cells #[.bool false, .string ⟨#[]⟩, .int .i64 0] 28)) = wS at HP ⊢
  obtain ⟨N, hN⟩ : ∃ N, N = w.heap.size := ⟨_, rfl⟩
  rw [← hN] at HP ⊢
  have HN := hide hN
  clear hN
  refine Calls.mono (c101.out _ (HP.out.env HN.out HE.out)) ?_
  rintro e w2 ⟨rfl, hB⟩
  have H2 := hide (HP.out.call hB)
  clear hB HP
  go_wp2_with fail
  have H3 := H2
  clear H2
  refine Calls.mono (c46.out _ (H3.out.env HN.out HE.out)) ?_
  rintro e w4 ⟨rfl, hB⟩
  have H4 := hide (H3.out.call hB)
  clear hB H3
  go_wp2_with fail
  refine Calls.mono (cW.out _) ?_
  rintro e wq ⟨rfl, hwq⟩
  rw [hwq]
  clear hwq wq
  go_wp2_with fail
  refine Calls.mono (cF.out _) ?_
  rintro e wq ⟨rfl, hwq⟩
  rw [hwq]
  clear hwq wq
  go_wp2_with fail
  refine Calls.mono (cX.out _) ?_
  rintro e wq ⟨rfl, hwq⟩
  rw [hwq]
  clear hwq wq
  go_wp2_with fail
  refine Calls.mono (cZ.out _) ?_
  rintro e wq ⟨rfl, hwq⟩
  rw [hwq]
  clear hwq wq
  go_wp2_with fail
  refine Calls.mono (cA.out _) ?_
  rintro e w5 ⟨rfl, hB⟩
  have H5 := hide (H4.out.call hB)
  clear hB H4
  go_wp2_with fail
  have HD := H5.out.drew
  have HQ := HD.qs
  have q1 : ¬ 9223372036854775807 < Ws.size + Fs.size := by omega
  have q2 : (Fs.size : Int) ≤ 2000000 := by omega
  have q3 : (0 : Int) ≤ Fs.size := by omega
  have q4 : IntKind.i64.wrap (x - (Fs.size : Int)) = x - (Fs.size : Int) := IntWalk.i64_in _ (by omega)
  go_region_held3 (fun w' => w'.cell? ⟨N + 1, 0, none⟩ = some (.bool false) ∧ Hid (Below N w w' ∧ N + 1 < w'.heap.size)) (first | assumption | exact QS.set (QS.set (QS.set ‹_› _ _) _ _) _ _)
    (first | (go_at_call 24; refine (cT.out _).mono ?_; rintro e w7 ⟨rfl, hw7⟩; rw [hw7]) | (go_at_call 26; refine (cN.out _).mono ?_; rintro e w6 ⟨rfl, hB6⟩; have HP6 := PS.call ‹PS _ _ _ _› hB6; have HQ6 := HP6.qs; obtain ⟨p0, p1, p2, p3, g0, g1, g2, hR6⟩ := HP6))
  have HF := hide (QS.set (QS.set (QS.set HQ6 0 (.bool v0)) 1 (.string v1)) 2 (.int .i64 v2)).2
  go_wp2
  refine bodyPost_ret (v := .tuple #[.agg #[.bool v0, .string v1, .int .i64 v2], .bool true]) (by simp [results, Tryd.results16, go_sem, p0, p1, p2]) rfl ⟨rfl, by rw [← HN.out]; exact HF.out.out.1⟩

set_option maxHeartbeats 1000000 in
theorem parse_dp_t (a : UInt8) (A F D : List UInt8) (b : UInt8) (X : List UInt8) (x : Int) (v0 : Bool) (v1 : ByteArray) (v2 : Int) (w : World) (hE : Env w) (hW : Dig (a :: A)) (hF : Dig F) (hF0 : 0 < F.length) (hlen : (a :: A).length + F.length ≤ 2000000) (hD : Lib.trimLeftB (a :: A ++ F) 48 = D) (hX : Dig (b :: X)) (hX9 : (b :: X).length ≤ 9) (hat : Lib.atoiAll (b :: X) = .ok x) (hx1 : -1000000000 ≤ x) (hx2 : x ≤ 1000000000) 
    (hv : ∀ w, Calls Tryd.prog 26 #[.bool true, .string (str D), .int .i64 (x - F.length)] w fun en w' => en = .returned (.agg #[.bool v0, .string v1, .int .i64 v2]) ∧ Below w.heap.size w w') :
    Calls Tryd.prog 16 #[.string (str (sg true ++ ((a :: A ++ 46 :: F) ++ 101 :: (b :: X))))] w fun e w' => e = .returned (.tuple #[.agg #[.bool v0, .string v1, .int .i64 v2], .bool true]) ∧ Below w.heap.size w w' := by
  have cP := hide (fun w => prefix_any true a (A ++ 46 :: F ++ 101 :: (b :: X)) w (hW.no 45 (by decide) a (List.mem_cons_self ..)))
  have hl : (a :: A ++ 46 :: F).length ≤ 2500000 := by simp at hlen ⊢; omega
  have h101 := dig_mem hW hF 101 (by decide) (by decide)
  have hr : (((a :: A ++ 46 :: F) ++ 101 :: (b :: X))).length ≤ 2600000 := by simp at hl hX9 ⊢; omega
  have c101 := hide (fun w hE => cut_hit_any 101 (a :: A ++ 46 :: F) (b :: X) w (by omega) h101 hE)
  have c46 := hide (fun w hE => cut_hit_any 46 (a :: A) F w (by omega) (hW.no 46 (by decide)) hE)
  have cW := hide (fun w => allDig_any (a :: A) w (by omega) (by simp) hW)
  have cF := hide (fun w => allDig_any F w (by omega) hF0 hF)
  have cT := hide (fun w => trimL_any (a :: A ++ F) w)
  rw [hD, ← str_append] at cT
  have hfz : ((str F).size : Int) = F.length := by rw [str_size]
  rw [← hfz] at hv
  have cN := hide hv
  have cX := hide (fun w => allDig_any (b :: X) w (by omega) (by simp) hX)
  have cZ := hide (fun w => trimL_any (b :: X) w)
  have sZ : (str (Lib.trimLeftB (b :: X) 48)).size ≤ 9 := by rw [str_size]; have := trimL_len (b :: X); omega
  have cA := hide (fun w => atoi_any (b :: X) x w (by simp at hX9 ⊢; omega) hat)
  have sX : 0 < (str (b :: X)).size := by rw [str_size]; simp
  obtain ⟨hXe, hXe2⟩ := toList_some _ sX
  have sXz : (0 : Int) < (str (b :: X)).size := by omega
  have sXz1 : (1 : Int) ≤ (str (b :: X)).size := by omega
  have sXb : (str (b :: X)).size ≤ 10 := by rw [str_size]; simp at hX9 ⊢; omega
  have hbd := hX b (List.mem_cons_self ..)
  have hX45 : ((((str (b :: X))[0]'sX).toNat : Int) == 45) = false := by rw [str_head]; exact beq_eq_false_iff_ne.2 (by omega)
  have hX43 : ((((str (b :: X))[0]'sX).toNat : Int) == 43) = false := by rw [str_head]; exact beq_eq_false_iff_ne.2 (by omega)
  have e1 : str [101] = ⟨#[101]⟩ := rfl
  have e3 : str [46] = ⟨#[46]⟩ := rfl
  rw [show a :: (A ++ 46 :: F ++ 101 :: (b :: X)) = ((a :: A ++ 46 :: F) ++ 101 :: (b :: X)) from rfl] at cP
  rw [e1] at c101
  rw [e3] at c46
  have sW : (str (a :: A)).size ≤ 2000000 := by rw [str_size]; omega
  have sF : (str F).size ≤ 2000000 := by rw [str_size]; omega
  have sT : (str (sg true ++ ((a :: A ++ 46 :: F) ++ 101 :: (b :: X)))).size ≤ 3000000 := by rw [str_size]; simp [sg] at hlen hX9 ⊢; omega
  have hTt : (str (sg true ++ ((a :: A ++ 46 :: F) ++ 101 :: (b :: X)))).extract 1 (str (sg true ++ ((a :: A ++ 46 :: F) ++ 101 :: (b :: X)))).size = str ((a :: A ++ 46 :: F) ++ 101 :: (b :: X)) := str_drop (45 :: ((a :: A ++ 46 :: F) ++ 101 :: (b :: X))) 1
  have sT1 : (1 : Int) ≤ (str (sg true ++ ((a :: A ++ 46 :: F) ++ 101 :: (b :: X)))).size := by rw [str_size]; simp [sg]; omega
  generalize str (sg true ++ ((a :: A ++ 46 :: F) ++ 101 :: (b :: X))) = T at *
  generalize str ((a :: A ++ 46 :: F) ++ 101 :: (b :: X)) = Rs at *
  generalize str (a :: A ++ 46 :: F) = Ms at *
  generalize str (a :: A) = Ws at *
  generalize str F = Fs at *
  generalize str D = Ds at *
  generalize str (Lib.trimLeftB (b :: X) 48) = Zs at *
  generalize str (b :: X) = Xs at *
  have HE := hide hE
  have HP := hide (PS.new w true)
  clear hE hv e1 e3 hD h101 hl hW hlen hF hF0 hfz hX hX9 hat hr hbd
  go_enter Tryd.func16, Tryd.ntmps16
  go_wp2_with fail
  refine Calls.mono (cP.out _) ?_
  rintro e wq ⟨rfl, hwq⟩
  rw [hwq]
  clear hwq wq
  go_wp2_with fail
  go_region
  go_wp2_with fail
  have HPd := hide HP.out.drew
  clear HP
  have HP := HPd
  clear HPd
  generalize ((w.alloc (.cells #[.bool false, .string ⟨#[]⟩, .int .i64 0] 28)).alloc (.cells #[.bool true, .string ⟨#[]⟩, .int .i64 0] 28)).drew = wS at HP ⊢
  obtain ⟨N, hN⟩ : ∃ N, N = w.heap.size := ⟨_, rfl⟩
  rw [← hN] at HP ⊢
  have HN := hide hN
  clear hN
  refine Calls.mono (c101.out _ (HP.out.env HN.out HE.out)) ?_
  rintro e w2 ⟨rfl, hB⟩
  have H2 := hide (HP.out.call hB)
  clear hB HP
  go_wp2_with fail
  have H3 := H2
  clear H2
  refine Calls.mono (c46.out _ (H3.out.env HN.out HE.out)) ?_
  rintro e w4 ⟨rfl, hB⟩
  have H4 := hide (H3.out.call hB)
  clear hB H3
  go_wp2_with fail
  refine Calls.mono (cW.out _) ?_
  rintro e wq ⟨rfl, hwq⟩
  rw [hwq]
  clear hwq wq
  go_wp2_with fail
  refine Calls.mono (cF.out _) ?_
  rintro e wq ⟨rfl, hwq⟩
  rw [hwq]
  clear hwq wq
  go_wp2_with fail
  refine Calls.mono (cX.out _) ?_
  rintro e wq ⟨rfl, hwq⟩
  rw [hwq]
  clear hwq wq
  go_wp2_with fail
  refine Calls.mono (cZ.out _) ?_
  rintro e wq ⟨rfl, hwq⟩
  rw [hwq]
  clear hwq wq
  go_wp2_with fail
  refine Calls.mono (cA.out _) ?_
  rintro e w5 ⟨rfl, hB⟩
  have H5 := hide (H4.out.call hB)
  clear hB H4
  go_wp2_with fail
  have HD := H5.out.drew
  have HQ := HD.qs
  have q1 : ¬ 9223372036854775807 < Ws.size + Fs.size := by omega
  have q2 : (Fs.size : Int) ≤ 2000000 := by omega
  have q3 : (0 : Int) ≤ Fs.size := by omega
  have q4 : IntKind.i64.wrap (x - (Fs.size : Int)) = x - (Fs.size : Int) := IntWalk.i64_in _ (by omega)
  go_region_held3 (fun w' => w'.cell? ⟨N + 1, 0, none⟩ = some (.bool true) ∧ Hid (Below N w w' ∧ N + 1 < w'.heap.size)) (first | assumption | exact QS.set (QS.set (QS.set ‹_› _ _) _ _) _ _)
    (first | (go_at_call 24; refine (cT.out _).mono ?_; rintro e w7 ⟨rfl, hw7⟩; rw [hw7]) | (go_at_call 26; refine (cN.out _).mono ?_; rintro e w6 ⟨rfl, hB6⟩; have HP6 := PS.call ‹PS _ _ _ _› hB6; have HQ6 := HP6.qs; obtain ⟨p0, p1, p2, p3, g0, g1, g2, hR6⟩ := HP6))
  have HF := hide (QS.set (QS.set (QS.set HQ6 0 (.bool v0)) 1 (.string v1)) 2 (.int .i64 v2)).2
  go_wp2
  refine bodyPost_ret (v := .tuple #[.agg #[.bool v0, .string v1, .int .i64 v2], .bool true]) (by simp [results, Tryd.results16, go_sem, p0, p1, p2]) rfl ⟨rfl, by rw [← HN.out]; exact HF.out.out.1⟩

set_option maxHeartbeats 1000000 in
theorem parse_dm_f (a : UInt8) (A F D : List UInt8) (X : List UInt8) (x : Int) (v0 : Bool) (v1 : ByteArray) (v2 : Int) (w : World) (hE : Env w) (hW : Dig (a :: A)) (hF : Dig F) (hF0 : 0 < F.length) (hlen : (a :: A).length + F.length ≤ 2000000) (hD : Lib.trimLeftB (a :: A ++ F) 48 = D) (hX : Dig X) (hX0 : 0 < X.length) (hX9 : X.length ≤ 9) (hat : Lib.atoiAll (45 :: X) = .ok x) (hx1 : -1000000000 ≤ x) (hx2 : x ≤ 1000000000) 
    (hv : ∀ w, Calls Tryd.prog 26 #[.bool false, .string (str D), .int .i64 (x - F.length)] w fun en w' => en = .returned (.agg #[.bool v0, .string v1, .int .i64 v2]) ∧ Below w.heap.size w w') :
    Calls Tryd.prog 16 #[.string (str (sg false ++ ((a :: A ++ 46 :: F) ++ 101 :: (45 :: X))))] w fun e w' => e = .returned (.tuple #[.agg #[.bool v0, .string v1, .int .i64 v2], .bool true]) ∧ Below w.heap.size w w' := by
  have cP := hide (fun w => prefix_any false a (A ++ 46 :: F ++ 101 :: (45 :: X)) w (hW.no 45 (by decide) a (List.mem_cons_self ..)))
  have hl : (a :: A ++ 46 :: F).length ≤ 2500000 := by simp at hlen ⊢; omega
  have h101 := dig_mem hW hF 101 (by decide) (by decide)
  have hr : (((a :: A ++ 46 :: F) ++ 101 :: (45 :: X))).length ≤ 2600000 := by simp at hl hX9 ⊢; omega
  have c101 := hide (fun w hE => cut_hit_any 101 (a :: A ++ 46 :: F) (45 :: X) w (by omega) h101 hE)
  have c46 := hide (fun w hE => cut_hit_any 46 (a :: A) F w (by omega) (hW.no 46 (by decide)) hE)
  have cW := hide (fun w => allDig_any (a :: A) w (by omega) (by simp) hW)
  have cF := hide (fun w => allDig_any F w (by omega) hF0 hF)
  have cT := hide (fun w => trimL_any (a :: A ++ F) w)
  rw [hD, ← str_append] at cT
  have hfz : ((str F).size : Int) = F.length := by rw [str_size]
  rw [← hfz] at hv
  have cN := hide hv
  have cX := hide (fun w => allDig_any X w (by omega) (hX0) hX)
  have cZ := hide (fun w => trimL_any X w)
  have sZ : (str (Lib.trimLeftB X 48)).size ≤ 9 := by rw [str_size]; have := trimL_len X; omega
  have cA := hide (fun w => atoi_any (45 :: X) x w (by simp at hX9 ⊢; omega) hat)
  have sX : 0 < (str (45 :: X)).size := by rw [str_size]; simp
  obtain ⟨hXe, hXe2⟩ := toList_some _ sX
  have sXz : (0 : Int) < (str (45 :: X)).size := by omega
  have sXz1 : (1 : Int) ≤ (str (45 :: X)).size := by omega
  have sXb : (str (45 :: X)).size ≤ 10 := by rw [str_size]; simp at hX9 ⊢; omega
  have hX45 : (((str (45 :: X))[0]'sX).toNat : Int) = 45 := by rw [str_head]; rfl
  have htl : (str (45 :: X)).extract 1 (str (45 :: X)).size = str X := str_drop (45 :: X) 1
  have e1 : str [101] = ⟨#[101]⟩ := rfl
  have e3 : str [46] = ⟨#[46]⟩ := rfl
  rw [show a :: (A ++ 46 :: F ++ 101 :: (45 :: X)) = ((a :: A ++ 46 :: F) ++ 101 :: (45 :: X)) from rfl] at cP
  rw [e1] at c101
  rw [e3] at c46
  have sW : (str (a :: A)).size ≤ 2000000 := by rw [str_size]; omega
  have sF : (str F).size ≤ 2000000 := by rw [str_size]; omega
  have sT : (str (sg false ++ ((a :: A ++ 46 :: F) ++ 101 :: (45 :: X)))).size ≤ 3000000 := by rw [str_size]; simp [sg] at hlen hX9 ⊢; omega
  rw [show sg false ++ ((a :: A ++ 46 :: F) ++ 101 :: (45 :: X)) = ((a :: A ++ 46 :: F) ++ 101 :: (45 :: X)) from rfl] at cP sT ⊢
  generalize str ((a :: A ++ 46 :: F) ++ 101 :: (45 :: X)) = Rs at *
  generalize str (a :: A ++ 46 :: F) = Ms at *
  generalize str (a :: A) = Ws at *
  generalize str F = Fs at *
  generalize str D = Ds at *
  generalize str (Lib.trimLeftB X 48) = Zs at *
  generalize str (45 :: X) = Xs at *
  generalize str X = Ys at *
  have HE := hide hE
  have HP := hide (PS.new w false)
  clear hE hv e1 e3 hD h101 hl hW hlen hF hF0 hfz hX hX9 hat hr hX0
  go_enter Tryd.func16, Tryd.ntmps16
  go_wp2_with fail
  refine Calls.mono (cP.out _) ?_
  rintro e wq ⟨rfl, hwq⟩
  rw [hwq]
  clear hwq wq
  go_wp2_with fail
  generalize ((w.alloc (.cells #[.bool false, .string ⟨#[]⟩, .int .i64 0] 28)).alloc (.cells #[.bool false, .string ⟨#[]⟩, .int .i64 0] 28)) = wS at HP ⊢
  obtain ⟨N, hN⟩ : ∃ N, N = w.heap.size := ⟨_, rfl⟩
  rw [← hN] at HP ⊢
  have HN := hide hN
  clear hN
  refine Calls.mono (c101.out _ (HP.out.env HN.out HE.out)) ?_
  rintro e w2 ⟨rfl, hB⟩
  have H2 := hide (HP.out.call hB)
  clear hB HP
  go_wp2_with fail
  have H3 := H2
  clear H2
  refine Calls.mono (c46.out _ (H3.out.env HN.out HE.out)) ?_
  rintro e w4 ⟨rfl, hB⟩
  have H4 := hide (H3.out.call hB)
  clear hB H3
  go_wp2_with fail
  refine Calls.mono (cW.out _) ?_
  rintro e wq ⟨rfl, hwq⟩
  rw [hwq]
  clear hwq wq
  go_wp2_with fail
  refine Calls.mono (cF.out _) ?_
  rintro e wq ⟨rfl, hwq⟩
  rw [hwq]
  clear hwq wq
  go_wp2_with fail
  refine Calls.mono (cX.out _) ?_
  rintro e wq ⟨rfl, hwq⟩
  rw [hwq]
  clear hwq wq
  go_wp2_with fail
  refine Calls.mono (cZ.out _) ?_
  rintro e wq ⟨rfl, hwq⟩
  rw [hwq]
  clear hwq wq
  go_wp2_with fail
  refine Calls.mono (cA.out _) ?_
  rintro e w5 ⟨rfl, hB⟩
  have H5 := hide (H4.out.call hB)
  clear hB H4
  go_wp2_with fail
  have HD := H5.out.drew
  have HQ := HD.qs
  have q1 : ¬ 9223372036854775807 < Ws.size + Fs.size := by omega
  have q2 : (Fs.size : Int) ≤ 2000000 := by omega
  have q3 : (0 : Int) ≤ Fs.size := by omega
  have q4 : IntKind.i64.wrap (x - (Fs.size : Int)) = x - (Fs.size : Int) := IntWalk.i64_in _ (by omega)
  go_region_held3 (fun w' => w'.cell? ⟨N + 1, 0, none⟩ = some (.bool false) ∧ Hid (Below N w w' ∧ N + 1 < w'.heap.size)) (first | assumption | exact QS.set (QS.set (QS.set ‹_› _ _) _ _) _ _)
    (first | (go_at_call 24; refine (cT.out _).mono ?_; rintro e w7 ⟨rfl, hw7⟩; rw [hw7]) | (go_at_call 26; refine (cN.out _).mono ?_; rintro e w6 ⟨rfl, hB6⟩; have HP6 := PS.call ‹PS _ _ _ _› hB6; have HQ6 := HP6.qs; obtain ⟨p0, p1, p2, p3, g0, g1, g2, hR6⟩ := HP6))
  have HF := hide (QS.set (QS.set (QS.set HQ6 0 (.bool v0)) 1 (.string v1)) 2 (.int .i64 v2)).2
  go_wp2
  refine bodyPost_ret (v := .tuple #[.agg #[.bool v0, .string v1, .int .i64 v2], .bool true]) (by simp [results, Tryd.results16, go_sem, p0, p1, p2]) rfl ⟨rfl, by rw [← HN.out]; exact HF.out.out.1⟩

set_option maxHeartbeats 1000000 in
theorem parse_dm_t (a : UInt8) (A F D : List UInt8) (X : List UInt8) (x : Int) (v0 : Bool) (v1 : ByteArray) (v2 : Int) (w : World) (hE : Env w) (hW : Dig (a :: A)) (hF : Dig F) (hF0 : 0 < F.length) (hlen : (a :: A).length + F.length ≤ 2000000) (hD : Lib.trimLeftB (a :: A ++ F) 48 = D) (hX : Dig X) (hX0 : 0 < X.length) (hX9 : X.length ≤ 9) (hat : Lib.atoiAll (45 :: X) = .ok x) (hx1 : -1000000000 ≤ x) (hx2 : x ≤ 1000000000) 
    (hv : ∀ w, Calls Tryd.prog 26 #[.bool true, .string (str D), .int .i64 (x - F.length)] w fun en w' => en = .returned (.agg #[.bool v0, .string v1, .int .i64 v2]) ∧ Below w.heap.size w w') :
    Calls Tryd.prog 16 #[.string (str (sg true ++ ((a :: A ++ 46 :: F) ++ 101 :: (45 :: X))))] w fun e w' => e = .returned (.tuple #[.agg #[.bool v0, .string v1, .int .i64 v2], .bool true]) ∧ Below w.heap.size w w' := by
  have cP := hide (fun w => prefix_any true a (A ++ 46 :: F ++ 101 :: (45 :: X)) w (hW.no 45 (by decide) a (List.mem_cons_self ..)))
  have hl : (a :: A ++ 46 :: F).length ≤ 2500000 := by simp at hlen ⊢; omega
  have h101 := dig_mem hW hF 101 (by decide) (by decide)
  have hr : (((a :: A ++ 46 :: F) ++ 101 :: (45 :: X))).length ≤ 2600000 := by simp at hl hX9 ⊢; omega
  have c101 := hide (fun w hE => cut_hit_any 101 (a :: A ++ 46 :: F) (45 :: X) w (by omega) h101 hE)
  have c46 := hide (fun w hE => cut_hit_any 46 (a :: A) F w (by omega) (hW.no 46 (by decide)) hE)
  have cW := hide (fun w => allDig_any (a :: A) w (by omega) (by simp) hW)
  have cF := hide (fun w => allDig_any F w (by omega) hF0 hF)
  have cT := hide (fun w => trimL_any (a :: A ++ F) w)
  rw [hD, ← str_append] at cT
  have hfz : ((str F).size : Int) = F.length := by rw [str_size]
  rw [← hfz] at hv
  have cN := hide hv
  have cX := hide (fun w => allDig_any X w (by omega) (hX0) hX)
  have cZ := hide (fun w => trimL_any X w)
  have sZ : (str (Lib.trimLeftB X 48)).size ≤ 9 := by rw [str_size]; have := trimL_len X; omega
  have cA := hide (fun w => atoi_any (45 :: X) x w (by simp at hX9 ⊢; omega) hat)
  have sX : 0 < (str (45 :: X)).size := by rw [str_size]; simp
  obtain ⟨hXe, hXe2⟩ := toList_some _ sX
  have sXz : (0 : Int) < (str (45 :: X)).size := by omega
  have sXz1 : (1 : Int) ≤ (str (45 :: X)).size := by omega
  have sXb : (str (45 :: X)).size ≤ 10 := by rw [str_size]; simp at hX9 ⊢; omega
  have hX45 : (((str (45 :: X))[0]'sX).toNat : Int) = 45 := by rw [str_head]; rfl
  have htl : (str (45 :: X)).extract 1 (str (45 :: X)).size = str X := str_drop (45 :: X) 1
  have e1 : str [101] = ⟨#[101]⟩ := rfl
  have e3 : str [46] = ⟨#[46]⟩ := rfl
  rw [show a :: (A ++ 46 :: F ++ 101 :: (45 :: X)) = ((a :: A ++ 46 :: F) ++ 101 :: (45 :: X)) from rfl] at cP
  rw [e1] at c101
  rw [e3] at c46
  have sW : (str (a :: A)).size ≤ 2000000 := by rw [str_size]; omega
  have sF : (str F).size ≤ 2000000 := by rw [str_size]; omega
  have sT : (str (sg true ++ ((a :: A ++ 46 :: F) ++ 101 :: (45 :: X)))).size ≤ 3000000 := by rw [str_size]; simp [sg] at hlen hX9 ⊢; omega
  have hTt : (str (sg true ++ ((a :: A ++ 46 :: F) ++ 101 :: (45 :: X)))).extract 1 (str (sg true ++ ((a :: A ++ 46 :: F) ++ 101 :: (45 :: X)))).size = str ((a :: A ++ 46 :: F) ++ 101 :: (45 :: X)) := str_drop (45 :: ((a :: A ++ 46 :: F) ++ 101 :: (45 :: X))) 1
  have sT1 : (1 : Int) ≤ (str (sg true ++ ((a :: A ++ 46 :: F) ++ 101 :: (45 :: X)))).size := by rw [str_size]; simp [sg]; omega
  generalize str (sg true ++ ((a :: A ++ 46 :: F) ++ 101 :: (45 :: X))) = T at *
  generalize str ((a :: A ++ 46 :: F) ++ 101 :: (45 :: X)) = Rs at *
  generalize str (a :: A ++ 46 :: F) = Ms at *
  generalize str (a :: A) = Ws at *
  generalize str F = Fs at *
  generalize str D = Ds at *
  generalize str (Lib.trimLeftB X 48) = Zs at *
  generalize str (45 :: X) = Xs at *
  generalize str X = Ys at *
  have HE := hide hE
  have HP := hide (PS.new w true)
  clear hE hv e1 e3 hD h101 hl hW hlen hF hF0 hfz hX hX9 hat hr hX0
  go_enter Tryd.func16, Tryd.ntmps16
  go_wp2_with fail
  refine Calls.mono (cP.out _) ?_
  rintro e wq ⟨rfl, hwq⟩
  rw [hwq]
  clear hwq wq
  go_wp2_with fail
  go_region
  go_wp2_with fail
  have HPd := hide HP.out.drew
  clear HP
  have HP := HPd
  clear HPd
  generalize ((w.alloc (.cells #[.bool false, .string ⟨#[]⟩, .int .i64 0] 28)).alloc (.cells #[.bool true, .string ⟨#[]⟩, .int .i64 0] 28)).drew = wS at HP ⊢
  obtain ⟨N, hN⟩ : ∃ N, N = w.heap.size := ⟨_, rfl⟩
  rw [← hN] at HP ⊢
  have HN := hide hN
  clear hN
  refine Calls.mono (c101.out _ (HP.out.env HN.out HE.out)) ?_
  rintro e w2 ⟨rfl, hB⟩
  have H2 := hide (HP.out.call hB)
  clear hB HP
  go_wp2_with fail
  have H3 := H2
  clear H2
  refine Calls.mono (c46.out _ (H3.out.env HN.out HE.out)) ?_
  rintro e w4 ⟨rfl, hB⟩
  have H4 := hide (H3.out.call hB)
  clear hB H3
  go_wp2_with fail
  refine Calls.mono (cW.out _) ?_
  rintro e wq ⟨rfl, hwq⟩
  rw [hwq]
  clear hwq wq
  go_wp2_with fail
  refine Calls.mono (cF.out _) ?_
  rintro e wq ⟨rfl, hwq⟩
  rw [hwq]
  clear hwq wq
  go_wp2_with fail
  refine Calls.mono (cX.out _) ?_
  rintro e wq ⟨rfl, hwq⟩
  rw [hwq]
  clear hwq wq
  go_wp2_with fail
  refine Calls.mono (cZ.out _) ?_
  rintro e wq ⟨rfl, hwq⟩
  rw [hwq]
  clear hwq wq
  go_wp2_with fail
  refine Calls.mono (cA.out _) ?_
  rintro e w5 ⟨rfl, hB⟩
  have H5 := hide (H4.out.call hB)
  clear hB H4
  go_wp2_with fail
  have HD := H5.out.drew
  have HQ := HD.qs
  have q1 : ¬ 9223372036854775807 < Ws.size + Fs.size := by omega
  have q2 : (Fs.size : Int) ≤ 2000000 := by omega
  have q3 : (0 : Int) ≤ Fs.size := by omega
  have q4 : IntKind.i64.wrap (x - (Fs.size : Int)) = x - (Fs.size : Int) := IntWalk.i64_in _ (by omega)
  go_region_held3 (fun w' => w'.cell? ⟨N + 1, 0, none⟩ = some (.bool true) ∧ Hid (Below N w w' ∧ N + 1 < w'.heap.size)) (first | assumption | exact QS.set (QS.set (QS.set ‹_› _ _) _ _) _ _)
    (first | (go_at_call 24; refine (cT.out _).mono ?_; rintro e w7 ⟨rfl, hw7⟩; rw [hw7]) | (go_at_call 26; refine (cN.out _).mono ?_; rintro e w6 ⟨rfl, hB6⟩; have HP6 := PS.call ‹PS _ _ _ _› hB6; have HQ6 := HP6.qs; obtain ⟨p0, p1, p2, p3, g0, g1, g2, hR6⟩ := HP6))
  have HF := hide (QS.set (QS.set (QS.set HQ6 0 (.bool v0)) 1 (.string v1)) 2 (.int .i64 v2)).2
  go_wp2
  refine bodyPost_ret (v := .tuple #[.agg #[.bool v0, .string v1, .int .i64 v2], .bool true]) (by simp [results, Tryd.results16, go_sem, p0, p1, p2]) rfl ⟨rfl, by rw [← HN.out]; exact HF.out.out.1⟩
end Go.Proofs.Qxb6606095aDoor
