import Derived.Test.Qxb6606095aDoorParseE
import Derived.Test.Qxb6606095aDoorParseN
namespace Go.Proofs.Qxb6606095aDoor
open Go.RowKit

/-! FloatText's text, read by Parse. -/
theorem norm_at (n : Bool) (c : List UInt8) (k : Nat) (e x : Int) (hC : Canon c) (hl : c.length + k ≤ 3000000) (he1 : -2000000000 ≤ e) (he2 : e ≤ 2000000000) (hx : e + k = x) :
    ∀ w, Calls Tryd.prog 26 #[.bool n, .string (str (c ++ zs k)), .int .i64 e] w fun en w' => en = .returned (.agg #[.bool n, .string (str c), .int .i64 x]) ∧ Below w.heap.size w w' := fun w => by
  have hlen : (c ++ zs k).length = c.length + k := by rw [List.length_append, zs_len]
  have h := normal_canon n (c ++ zs k) c e w (by omega) (hC.trimR k) (by have := hC.pos; omega) (by omega) he1 he2
  have hv : e + ((c ++ zs k).length : Int) - c.length = x := by rw [hlen]; omega
  rw [hv] at h
  exact h
theorem norm_at0 (n : Bool) (c : List UInt8) (e : Int) (hC : Canon c) (hl : c.length ≤ 3000000) (he1 : -2000000000 ≤ e) (he2 : e ≤ 2000000000) :
    ∀ w, Calls Tryd.prog 26 #[.bool n, .string (str c), .int .i64 e] w fun en w' => en = .returned (.agg #[.bool n, .string (str c), .int .i64 e]) ∧ Below w.heap.size w w' := by
  have h := norm_at n c 0 e e hC (by omega) he1 he2 (by simp)
  rw [show c ++ zs 0 = c by simp [zs]] at h
  exact h

/-- What Parse says of the text T: the decimal (v0, v1, v2), and true. -/
def Reads (T : ByteArray) (v0 : Bool) (v1 : ByteArray) (v2 : Int) : Prop :=
  ∀ w, Env w → Calls Tryd.prog 16 #[.string T] w fun e w' => e = .returned (.tuple #[.agg #[.bool v0, .string v1, .int .i64 v2], .bool true]) ∧ Below w.heap.size w w'

theorem parse_d (n : Bool) (a : UInt8) (A F D : List UInt8) (v0 : Bool) (v1 : ByteArray) (v2 : Int) (hW : Dig (a :: A)) (hF : Dig F) (hF0 : 0 < F.length) (hlen : (a :: A).length + F.length ≤ 2000000) (hD : Lib.trimLeftB (a :: A ++ F) 48 = D)
    (hv : ∀ w, Calls Tryd.prog 26 #[.bool n, .string (str D), .int .i64 (0 - F.length)] w fun en w' => en = .returned (.agg #[.bool v0, .string v1, .int .i64 v2]) ∧ Below w.heap.size w w') :
    Reads (str (sg n ++ (a :: A ++ 46 :: F))) v0 v1 v2 := fun w hE => by
  cases n
  · exact parse_d0_f a A F D v0 v1 v2 w hE hW hF hF0 hlen hD hv
  · exact parse_d0_t a A F D v0 v1 v2 w hE hW hF hF0 hlen hD hv
theorem parse_de (n : Bool) (a : UInt8) (A F D X : List UInt8) (x : Int) (neg : Bool) (U : List UInt8) (hX : ExpText X x neg U) (hx1 : -1000000000 ≤ x) (hx2 : x ≤ 1000000000) (v0 : Bool) (v1 : ByteArray) (v2 : Int) (hW : Dig (a :: A)) (hF : Dig F) (hF0 : 0 < F.length) (hlen : (a :: A).length + F.length ≤ 2000000) (hD : Lib.trimLeftB (a :: A ++ F) 48 = D)
    (hv : ∀ w, Calls Tryd.prog 26 #[.bool n, .string (str D), .int .i64 (x - F.length)] w fun en w' => en = .returned (.agg #[.bool v0, .string v1, .int .i64 v2]) ∧ Below w.heap.size w w') :
    Reads (str (sg n ++ ((a :: A ++ 46 :: F) ++ 101 :: X))) v0 v1 v2 := fun w hE => by
  obtain ⟨hsh, hdig, hne, hU9, hat⟩ := hX
  cases neg
  · rw [if_neg (by decide)] at hsh
    cases U with
    | nil => exact absurd rfl hne
    | cons b V =>
      subst hsh
      cases n
      · exact parse_dp_f a A F D b V x v0 v1 v2 w hE hW hF hF0 hlen hD hdig hU9 hat hx1 hx2 hv
      · exact parse_dp_t a A F D b V x v0 v1 v2 w hE hW hF hF0 hlen hD hdig hU9 hat hx1 hx2 hv
  · rw [if_pos rfl] at hsh
    subst hsh
    have h0 : 0 < U.length := List.length_pos_iff.2 hne
    cases n
    · exact parse_dm_f a A F D U x v0 v1 v2 w hE hW hF hF0 hlen hD hdig h0 hU9 hat hx1 hx2 hv
    · exact parse_dm_t a A F D U x v0 v1 v2 w hE hW hF hF0 hlen hD hdig h0 hU9 hat hx1 hx2 hv
theorem parse_ne (n : Bool) (a : UInt8) (A D X : List UInt8) (x : Int) (neg : Bool) (U : List UInt8) (hX : ExpText X x neg U) (hx1 : -1000000000 ≤ x) (hx2 : x ≤ 1000000000) (v0 : Bool) (v1 : ByteArray) (v2 : Int) (hW : Dig (a :: A)) (hlen : (a :: A).length ≤ 2000000) (hD : Lib.trimLeftB (a :: A) 48 = D)
    (hv : ∀ w, Calls Tryd.prog 26 #[.bool n, .string (str D), .int .i64 x] w fun en w' => en = .returned (.agg #[.bool v0, .string v1, .int .i64 v2]) ∧ Below w.heap.size w w') :
    Reads (str (sg n ++ ((a :: A) ++ 101 :: X))) v0 v1 v2 := fun w hE => by
  obtain ⟨hsh, hdig, hne, hU9, hat⟩ := hX
  cases neg
  · rw [if_neg (by decide)] at hsh
    cases U with
    | nil => exact absurd rfl hne
    | cons b V =>
      subst hsh
      cases n
      · exact parse_np_f a A D b V x v0 v1 v2 w hE hW hlen hD hdig hU9 hat hx1 hx2 hv
      · exact parse_np_t a A D b V x v0 v1 v2 w hE hW hlen hD hdig hU9 hat hx1 hx2 hv
  · rw [if_pos rfl] at hsh
    subst hsh
    have h0 : 0 < U.length := List.length_pos_iff.2 hne
    cases n
    · exact parse_nm_f a A D U x v0 v1 v2 w hE hW hlen hD hdig h0 hU9 hat hx1 hx2 hv
    · exact parse_nm_t a A D U x v0 v1 v2 w hE hW hlen hD hdig h0 hU9 hat hx1 hx2 hv

/-- FloatText of (n, s, x) is T. -/
def Writes (n : Bool) (s : ByteArray) (x : Int) (T : ByteArray) : Prop :=
  ∀ w, Env w → Calls Tryd.prog 18 #[.agg #[.bool n, .string s, .int .i64 x]] w fun e w' => e = .returned (.string T) ∧ Below w.heap.size w w'

theorem round_int (n : Bool) (c : List UInt8) (k : Nat) (hC : Canon c) (hl : c.length ≤ 1048576) (hk : k ≤ 20) : ∃ T, T.size ≤ 2000000 ∧ Writes n (str c) k T ∧ Reads T n (str c) k := by
  obtain ⟨a, r, hc, ha⟩ := hC.head
  refine ⟨str (sg n ++ (a :: (r ++ zs k) ++ 46 :: [48])), ?_, ?_, ?_⟩
  · rw [str_size]
    have := zs_len k
    have hsg : (sg n).length ≤ 1 := by cases n <;> simp [sg]
    rw [hc] at hl
    simp at hl ⊢
    omega
  · intro w _
    have h := ft_int n (str c) k w (by rw [str_size]; exact hl) (by rw [str_size]; have := hC.pos; omega) hk
    have e : str (sg n) ++ str c ++ str (zs k) ++ ⟨#[46, 48]⟩ = str (sg n ++ (a :: (r ++ zs k) ++ 46 :: [48])) := by
      rw [show (⟨#[46, 48]⟩ : ByteArray) = str [46, 48] from rfl, str_append, str_append, str_append, hc]
      congr 1
      simp
    rw [e] at h
    exact h
  · have hD : Lib.trimLeftB (a :: (r ++ zs k) ++ [48]) 48 = c ++ zs (k + 1) := by
      have h := hC.trimL 0 (zs (k + 1))
      have e : a :: (r ++ zs k) ++ [48] = zs 0 ++ (c ++ zs (k + 1)) := by
        rw [hc]
        simp [zs, List.replicate_succ']
      rw [e]
      exact h
    refine parse_d n a (r ++ zs k) [48] (c ++ zs (k + 1)) n (str c) k ?_ ?_ (by simp) ?_ hD ?_
    · have h := hC.dig
      rw [hc] at h
      have := h.append (zs_dig k)
      simpa using this
    · exact Dig.cons (by decide) (fun x hx => by simp at hx)
    · have := zs_len k
      rw [hc] at hl
      simp at hl ⊢
      omega
    · exact norm_at n c (k + 1) _ _ hC (by omega) (by simp) (by simp) (by simp; omega)

theorem round_mid (n : Bool) (c : List UInt8) (x : Int) (p : Nat) (hC : Canon c) (hl : c.length ≤ 1048576) (hp : (c.length : Int) + x = p) (h1 : 0 < p) (h2 : p < c.length) : ∃ T, T.size ≤ 2000000 ∧ Writes n (str c) x T ∧ Reads T n (str c) x := by
  obtain ⟨a, r, hc, ha⟩ := hC.head
  obtain ⟨q, rfl⟩ : ∃ q, p = q + 1 := ⟨p - 1, by omega⟩
  have htk : c.take (q + 1) = a :: r.take q := by rw [hc]; rfl
  have hcat : c.take (q + 1) ++ c.drop (q + 1) = c := List.take_append_drop _ _
  have hdl : (c.drop (q + 1)).length = c.length - (q + 1) := by simp
  have htl : (c.take (q + 1)).length = q + 1 := by simp; omega
  refine ⟨str (sg n ++ (a :: r.take q ++ 46 :: c.drop (q + 1))), ?_, ?_, ?_⟩
  · rw [str_size, ← htk]
    have hsg : (sg n).length ≤ 1 := by cases n <;> simp [sg]
    simp only [List.length_append, List.length_cons, hdl, htl]
    omega
  · intro w _
    have h := ft_mid n (str c) x (q + 1) w (by rw [str_size]; exact hl) (by rw [str_size]; exact hp) h1 (by rw [str_size]; exact h2)
    rw [str_take, str_drop] at h
    have e : str (sg n) ++ str (c.take (q + 1)) ++ ⟨#[46]⟩ ++ str (c.drop (q + 1)) = str (sg n ++ (a :: r.take q ++ 46 :: c.drop (q + 1))) := by
      rw [show (⟨#[46]⟩ : ByteArray) = str [46] from rfl, str_append, str_append, str_append, htk]
      congr 1
      simp
    rw [e] at h
    exact h
  · have hD : Lib.trimLeftB (a :: r.take q ++ c.drop (q + 1)) 48 = c := by
      rw [← htk, hcat]
      have h := hC.trimL 0 []
      simpa [zs] using h
    refine parse_d n a (r.take q) (c.drop (q + 1)) c n (str c) x ?_ (hC.dig.drop _) (by omega) ?_ hD ?_
    · rw [← htk]; exact hC.dig.take _
    · rw [← htk]; omega
    · have e : (0 : Int) - ((c.drop (q + 1)).length : Int) = x := by rw [hdl]; omega
      rw [e]
      exact norm_at0 n c x hC (by omega) (by omega) (by omega)

theorem round_low (n : Bool) (c : List UInt8) (x : Int) (k : Nat) (hC : Canon c) (hl : c.length ≤ 1048576) (hp : (c.length : Int) + x = -(k : Int)) (h1 : k ≤ 20) : ∃ T, T.size ≤ 2000000 ∧ Writes n (str c) x T ∧ Reads T n (str c) x := by
  have hfl : (zs k ++ c).length = k + c.length := by rw [List.length_append, zs_len]
  refine ⟨str (sg n ++ (48 :: [] ++ 46 :: (zs k ++ c))), ?_, ?_, ?_⟩
  · rw [str_size]
    have hsg : (sg n).length ≤ 1 := by cases n <;> simp [sg]
    simp only [List.length_append, List.length_cons, List.length_nil, zs_len]
    omega
  · intro w _
    have h := ft_low n (str c) x (-(k : Int)) k w (by rw [str_size]; exact hl) (by rw [str_size]; have := hC.pos; omega) (by rw [str_size]; exact hp) (by omega) h1
    have e : str (sg n) ++ ⟨#[48, 46]⟩ ++ str (zs k) ++ str c = str (sg n ++ (48 :: [] ++ 46 :: (zs k ++ c))) := by
      rw [show (⟨#[48, 46]⟩ : ByteArray) = str [48, 46] from rfl, str_append, str_append, str_append]
      congr 1
      simp
    rw [e] at h
    exact h
  · have hD : Lib.trimLeftB (48 :: [] ++ (zs k ++ c)) 48 = c := by
      have h := hC.trimL (k + 1) []
      rw [List.append_nil] at h
      have e : (48 : UInt8) :: [] ++ (zs k ++ c) = zs (k + 1) ++ c := by simp [zs, List.replicate_succ]
      rw [e]
      exact h
    refine parse_d n 48 [] (zs k ++ c) c n (str c) x ?_ ((zs_dig k).append hC.dig) (by rw [hfl]; have := hC.pos; omega) ?_ hD ?_
    · exact Dig.cons (by decide) (fun x hx => by simp at hx)
    · rw [hfl]; simp; omega
    · have e : (0 : Int) - ((zs k ++ c).length : Int) = x := by rw [hfl]; omega
      rw [e]
      exact norm_at0 n c x hC (by omega) (by omega) (by omega)

theorem round_sci (n : Bool) (c : List UInt8) (x : Int) (hC : Canon c) (hl : c.length ≤ 1048576) (hx1 : -1073741824 ≤ x) (hx2 : x ≤ 1073741824) (hc : 20 < x ∨ (c.length : Int) + x < -20) (hq0 : -999999999 ≤ (c.length : Int) + x - 1) (hq1 : (c.length : Int) + x - 1 ≤ 999999999) : ∃ T, T.size ≤ 2000000 ∧ Writes n (str c) x T ∧ Reads T n (str c) x := by
  obtain ⟨a, r, hcr, ha⟩ := hC.head
  have hsg : (sg n).length ≤ 1 := by cases n <;> simp [sg]
  obtain ⟨q, hq⟩ : ∃ q, (c.length : Int) + x - 1 = q := ⟨_, rfl⟩
  obtain ⟨U, hU⟩ := itoa_exp q (by omega) (by omega)
  have hIl : (Lib.itoa q).length ≤ 11 := by rw [← str_size]; exact itoa_size q (by omega) (by omega)
  have hcl : c.length = r.length + 1 := by rw [hcr]; rfl
  by_cases h1 : c.length = 1
  · have hr : r = [] := List.eq_nil_of_length_eq_zero (by omega)
    subst hr
    refine ⟨str (sg n ++ ((a :: []) ++ 101 :: Lib.itoa q)), ?_, ?_, ?_⟩
    · rw [str_size]
      simp only [List.length_append, List.length_cons, List.length_nil]
      omega
    · intro w hE
      have h := ft_sci1 n (str c) x (q + 1) w (by rw [str_size]; exact hl) (by rw [str_size]; exact h1) hx1 hx2 (by rw [str_size]; omega) (by rcases hc with h | h <;> omega) (by omega) (by omega) hE
      rw [str_take, show q + 1 - 1 = q by omega] at h
      have e : str (sg n) ++ str (c.take 1) ++ ⟨#[101]⟩ ++ str (Lib.itoa q) = str (sg n ++ ((a :: []) ++ 101 :: Lib.itoa q)) := by
        rw [show (⟨#[101]⟩ : ByteArray) = str [101] from rfl, str_append, str_append, str_append, hcr]
        congr 1
        simp
      rw [e] at h
      exact h
    · have hD : Lib.trimLeftB (a :: []) 48 = c := by
        rw [trimL_head a [] ha, hcr]
      have hd := hC.dig
      rw [hcr] at hd
      refine parse_ne n a [] c (Lib.itoa q) q _ U hU (by omega) (by omega) n (str c) x hd (by simp) hD ?_
      have e : q = x := by omega
      rw [e]
      exact norm_at0 n c x hC (by omega) (by omega) (by omega)
  · refine ⟨str (sg n ++ ((a :: [] ++ 46 :: r) ++ 101 :: Lib.itoa q)), ?_, ?_, ?_⟩
    · rw [str_size]
      simp only [List.length_append, List.length_cons, List.length_nil]
      omega
    · intro w hE
      have h := ft_sci n (str c) x (q + 1) w (by rw [str_size]; exact hl) (by rw [str_size]; omega) hx1 hx2 (by rw [str_size]; omega) (by rcases hc with h | h <;> omega) (by omega) (by omega) hE
      rw [str_take, str_drop, show q + 1 - 1 = q by omega] at h
      have e : str (sg n) ++ (str (c.take 1) ++ (⟨#[46]⟩ ++ str (c.drop 1))) ++ ⟨#[101]⟩ ++ str (Lib.itoa q) = str (sg n ++ ((a :: [] ++ 46 :: r) ++ 101 :: Lib.itoa q)) := by
        rw [show (⟨#[101]⟩ : ByteArray) = str [101] from rfl, show (⟨#[46]⟩ : ByteArray) = str [46] from rfl, str_append, str_append, str_append, str_append, str_append, hcr]
        congr 1
        simp
      rw [e] at h
      exact h
    · have hD : Lib.trimLeftB (a :: [] ++ r) 48 = c := by
        rw [show a :: [] ++ r = a :: r from rfl, trimL_head a r ha, hcr]
      have hd := hC.dig
      rw [hcr] at hd
      refine parse_de n a [] r c (Lib.itoa q) q _ U hU (by omega) (by omega) n (str c) x ?_ ?_ (by omega) (by simp; omega) hD ?_
      · exact Dig.cons (hd a (List.mem_cons_self ..)) (fun x hx => by simp at hx)
      · exact fun y hy => hd y (List.mem_cons_of_mem _ hy)
      · have e : q - (r.length : Int) = x := by omega
        rw [e]
        exact norm_at0 n c x hC (by omega) (by omega) (by omega)

theorem round_zero : ∃ T, T.size ≤ 2000000 ∧ Writes false (str []) 0 T ∧ Reads T false (str []) 0 := by
  refine ⟨str (sg false ++ (48 :: [] ++ 46 :: [48])), by decide, ?_, ?_⟩
  · intro w _
    exact ft_zero false 0 w (by omega) (by omega)
  · refine parse_d false 48 [] [48] [] false (str []) 0 ?_ ?_ (by simp) (by simp) rfl ?_
    · exact Dig.cons (by decide) (fun x hx => by simp at hx)
    · exact Dig.cons (by decide) (fun x hx => by simp at hx)
    · exact normal_zero false _

theorem round (n : Bool) (c : List UInt8) (x : Int) (hC : Canon c) (hl : c.length ≤ 1048576) (hx1 : -1073741824 ≤ x) (hx2 : x ≤ 1073741824) (hq0 : -999999999 ≤ (c.length : Int) + x - 1) (hq1 : (c.length : Int) + x - 1 ≤ 999999999) : ∃ T, T.size ≤ 2000000 ∧ Writes n (str c) x T ∧ Reads T n (str c) x := by
  have hpos := hC.pos
  by_cases hc : 20 < x ∨ (c.length : Int) + x < -20
  · exact round_sci n c x hC hl hx1 hx2 hc hq0 hq1
  · by_cases h0 : 0 ≤ x
    · obtain ⟨k, rfl⟩ : ∃ k : Nat, x = k := ⟨x.toNat, by omega⟩
      exact round_int n c k hC hl (by omega)
    · by_cases hp : 0 < (c.length : Int) + x
      · obtain ⟨p, hp'⟩ : ∃ p : Nat, (c.length : Int) + x = p := ⟨((c.length : Int) + x).toNat, by omega⟩
        exact round_mid n c x p hC hl hp' (by omega) (by omega)
      · obtain ⟨k, hk⟩ : ∃ k : Nat, (c.length : Int) + x = -(k : Int) := ⟨(-((c.length : Int) + x)).toNat, by omega⟩
        exact round_low n c x k hC hl hk (by omega)
end Go.Proofs.Qxb6606095aDoor
