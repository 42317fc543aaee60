/- The walks through internal/strconv's commonPrefixLenIgnoreCase, inf, nan, special. -/
import Derived.Test.YtadpeebcombjnaaGreatDoorSN
import Derived.WalkMore
namespace Go.Proofs.YtadpeebcombjnaaGreatDoor
open Go Go.Proofs Go.RowKit Go.Lib
set_option maxRecDepth 100000
def lowB (c : UInt8) : UInt8 := if 65 ≤ c ∧ c ≤ 90 then c + 32 else c
def cpl : List UInt8 → List UInt8 → Nat
  | c :: l, q :: p => if lowB c = q then cpl l p + 1 else 0
  | _, _ => 0
theorem cpl_le : ∀ (l p : List UInt8), cpl l p ≤ l.length ∧ cpl l p ≤ p.length := by
  intro l
  induction l with
  | nil => intro p; cases p <;> exact ⟨Nat.zero_le _, Nat.zero_le _⟩
  | cons c l ih =>
    intro p
    cases p with
    | nil => exact ⟨Nat.zero_le _, Nat.zero_le _⟩
    | cons q p =>
      rw [cpl]
      have := ih p
      split
      · simp only [List.length_cons]; omega
      · exact ⟨Nat.zero_le _, Nat.zero_le _⟩
theorem cpl_end {l p : List UInt8} (h : l = [] ∨ p = []) : cpl l p = 0 := by
  rcases h with rfl | rfl
  · cases p <;> rfl
  · cases l <;> rfl
theorem lowB_up {c : UInt8} (h : 65 ≤ (c.toNat : Int) ∧ (c.toNat : Int) ≤ 90) : ((lowB c).toNat : Int) = (c.toNat : Int) + 32 := by
  have h1 : (65 : UInt8) ≤ c ∧ c ≤ 90 := by
    rw [UInt8.le_iff_toNat_le, UInt8.le_iff_toNat_le]
    have e1 : (65 : UInt8).toNat = 65 := rfl
    have e2 : (90 : UInt8).toNat = 90 := rfl
    omega
  unfold lowB
  rw [if_pos h1, UInt8.toNat_add]
  have e3 : (32 : UInt8).toNat = 32 := rfl
  rw [e3, Nat.mod_eq_of_lt (by omega)]
  omega
theorem lowB_no {c : UInt8} (h : ¬ (65 ≤ (c.toNat : Int) ∧ (c.toNat : Int) ≤ 90)) : lowB c = c := by
  unfold lowB
  refine if_neg fun h1 => h ?_
  rw [UInt8.le_iff_toNat_le, UInt8.le_iff_toNat_le] at h1
  have e1 : (65 : UInt8).toNat = 65 := rfl
  have e2 : (90 : UInt8).toNat = 90 := rfl
  omega
set_option maxHeartbeats 4000000 in
theorem cpl_any (s p : ByteArray) (w : World) (hs : s.size ≤ 100000) (_hp : p.size ≤ 100000) : Calls Tryz.prog 124 #[.string s, .string p] w fun e w' => e = .returned (.int .i64 (cpl (By s) (By p) : Nat)) ∧ w' = w := by
  obtain ⟨n, hn, hn1, hn2, hn3⟩ : ∃ n : Nat, min (p.size : Int) (s.size : Int) = (n : Int) ∧ n ≤ s.size ∧ n ≤ p.size ∧ (n = s.size ∨ n = p.size) := ⟨min p.size s.size, by omega, by omega, by omega, by omega⟩
  go_enter Tryz.func124, Tryz.ntmps124
  go_wp2_with fail
  try rw [hn]
  go_loopg [6, 7] n (fun gh i c wr => ∃ k : Nat, k + gh = n ∧ i = .int .i64 k ∧ wr = w ∧ Hid (cpl (By s) (By p) = k + cpl ((By s).drop k) ((By p).drop k)))
  case atStart => exact ⟨0, by omega, rfl, rfl, Lib.hid (by simp)⟩
  case round =>
    obtain ⟨k, hk, rfl, rfl, HC⟩ := hrel
    by_cases hlt : k < n
    · have hks : k < s.size := by omega
      have hkp : k < p.size := by omega
      have HS := Lib.hid (drop_list s k hks)
      have HP := Lib.hid (drop_list p k hkp)
      have hw : IntKind.u8.wrap ((s[k].toNat : Int) + 32) = ((s[k].toNat : Int) + 32) ∨ True := .inr trivial
      clear hw
      have hstep : ∀ b : Bool, decide (lowB s[k] = p[k]) = b → cpl (By s) (By p) = if b = true then k + 1 + cpl ((By s).drop (k + 1)) ((By p).drop (k + 1)) else k := by
        intro b hb
        rw [HC.out, show (By s).drop k = s[k] :: (By s).drop (k + 1) from HS.out, show (By p).drop k = p[k] :: (By p).drop (k + 1) from HP.out, cpl]
        subst hb
        by_cases h : lowB s[k] = p[k]
        · rw [if_pos h]; simp [h]; omega
        · rw [if_neg h]; simp [h]
      have HST := Lib.hid hstep
      clear hstep
      by_cases hu : 65 ≤ (s[k].toNat : Int) ∧ (s[k].toNat : Int) ≤ 90
      · have hlow := lowB_up hu
        have hw : IntKind.u8.wrap ((s[k].toNat : Int) + 32) = ((s[k].toNat : Int) + 32) := IntWalk.u8_in _ (by omega)
        obtain ⟨hu1, hu2⟩ := hu
        by_cases he : lowB s[k] = p[k]
        · have HE := Lib.hid (HST.out true (by simp [he]))
          have hb : (((s[k].toNat : Int) + 32) == (p[k].toNat : Int)) = true := by rw [beq_iff_eq, ← hlow, he]
          clear he hlow
          go_wp2_with fail
          go_roundg (n - (k + 1))
          case measure => omega
          case rel => exact ⟨k + 1, by omega, by go_num, rfl, Lib.hid (by simpa using HE.out)⟩
        · have HE := Lib.hid (HST.out false (by simp [he]))
          have hb : (((s[k].toNat : Int) + 32) == (p[k].toNat : Int)) = false := by rw [beq_eq_false_iff_ne, ← hlow]; intro e; exact he (UInt8.toNat_inj.1 (by omega))
          clear he hlow
          go_wp2_with fail
          go_ret
          have h := HE.out
          simp only [Bool.false_eq_true, if_false] at h
          exact ⟨by rw [h]; rfl, rfl⟩
      · have hlow := lowB_no hu
        have hcase : (s[k].toNat : Int) < 65 ∨ ¬ ((s[k].toNat : Int) < 65) ∧ (90 : Int) < (s[k].toNat : Int) := by omega
        by_cases he : lowB s[k] = p[k]
        · have HE := Lib.hid (HST.out true (by simp [he]))
          have hb : ((s[k].toNat : Int) == (p[k].toNat : Int)) = true := by rw [beq_iff_eq, ← hlow, he]
          clear he hlow hu
          rcases hcase with h1 | ⟨h1, h2⟩
          all_goals
            go_wp2_with fail
            go_roundg (n - (k + 1))
            case measure => omega
            case rel => exact ⟨k + 1, by omega, by go_num, rfl, Lib.hid (by simpa using HE.out)⟩
        · have HE := Lib.hid (HST.out false (by simp [he]))
          have hb : ((s[k].toNat : Int) == (p[k].toNat : Int)) = false := by rw [beq_eq_false_iff_ne]; intro e; exact he (by rw [hlow]; exact UInt8.toNat_inj.1 (by omega))
          clear he hlow hu
          rcases hcase with h1 | ⟨h1, h2⟩
          all_goals
            go_wp2_with fail
            go_ret
            have h := HE.out
            simp only [Bool.false_eq_true, if_false] at h
            exact ⟨by rw [h]; rfl, rfl⟩
    · obtain rfl : k = n := by omega
      have HZ : Hid (cpl (By s) (By p) = k) := Lib.hid (by
        rw [HC.out, cpl_end]; exact Nat.add_zero _
        rcases hn3 with h | h
        · exact .inl (List.drop_eq_nil_of_le (by rw [size_list]; omega))
        · exact .inr (List.drop_eq_nil_of_le (by rw [size_list]; omega)))
      go_wp2_with fail
      go_ret
      exact ⟨by rw [HZ.out]; rfl, rfl⟩
theorem results_t3 {fn : Func} {t u v : Tmp} (h : fn.results = #[.tmp t, .tmp u, .tmp v]) (tmps : Array Value) (P : Program) (w : World) :
    (results fn tmps).run P w = .ok (.tuple #[tmps.getD t undef, tmps.getD u undef, tmps.getD v undef]) w := by
  simp [results, h]
theorem results_t7 {fn : Func} {t1 t2 t3 t4 t5 t6 t7 : Tmp} (h : fn.results = #[.tmp t1, .tmp t2, .tmp t3, .tmp t4, .tmp t5, .tmp t6, .tmp t7]) (tmps : Array Value) (P : Program) (w : World) :
    (results fn tmps).run P w = .ok (.tuple #[tmps.getD t1 undef, tmps.getD t2 undef, tmps.getD t3 undef, tmps.getD t4 undef, tmps.getD t5 undef, tmps.getD t6 undef, tmps.getD t7 undef]) w := by
  simp [results, h]
theorem inf_any (w : World) : Calls Tryz.prog 125 #[.int .i64 1] w fun e w' => e = .returned (.float .f64 9218868437227405312) ∧ w' = w := by
  have h2 := from_call2
  go_enter Tryz.func125, Tryz.ntmps125
  go_wp2
  go_ret
  exact ⟨rfl, rfl⟩
theorem nan_any (w : World) : Calls Tryz.prog 126 #[] w fun e w' => e = .returned (.float .f64 9221120237041090561) ∧ w' = w := by
  have h2 := from_call2
  go_enter Tryz.func126, Tryz.ntmps126
  go_wp2
  go_ret
  exact ⟨rfl, rfl⟩
def INFW : List UInt8 := [105, 110, 102, 105, 110, 105, 116, 121]
def NANW : List UInt8 := [110, 97, 110]
/-- How many bytes of infinity are taken. -/
def adj (n : Nat) : Nat := if 3 < n ∧ n < 8 then 3 else n
/-- The special values (no sign ahead of them comes up). -/
def spF : List UInt8 → Option (Nat × Nat)
  | [] => none
  | c :: l =>
    if c = 105 ∨ c = 73 then (if adj (cpl (c :: l) INFW) = 3 ∨ adj (cpl (c :: l) INFW) = 8 then some (9218868437227405312, adj (cpl (c :: l) INFW)) else none)
    else if c = 110 ∨ c = 78 then (if cpl (c :: l) NANW = 3 then some (9221120237041090561, 3) else none) else none
def SpPost (l : List UInt8) (w : World) (e : Ending) (w' : World) : Prop := w' = w ∧
  ((spF l = none ∧ e = .returned (.tuple #[.float .f64 0, .int .i64 0, .bool false])) ∨ ∃ v n, spF l = some (v, n) ∧ e = .returned (.tuple #[.float .f64 v, .int .i64 (n : Nat), .bool true]))
/-- A text that special reads without a signed infinity. -/
def SpOk (l : List UInt8) : Prop := (∀ r, l ≠ 43 :: r) ∧ ∀ r, l = 45 :: r → cpl r INFW = 0
theorem spF_cons (c : UInt8) (l : List UInt8) : spF (c :: l) = if c = 105 ∨ c = 73 then (if adj (cpl (c :: l) INFW) = 3 ∨ adj (cpl (c :: l) INFW) = 8 then some (9218868437227405312, adj (cpl (c :: l) INFW)) else none) else if c = 110 ∨ c = 78 then (if cpl (c :: l) NANW = 3 then some (9221120237041090561, 3) else none) else none := rfl
theorem spF_45 (l : List UInt8) : spF (45 :: l) = none := rfl
set_option maxHeartbeats 4000000 in
theorem special_any (s : ByteArray) (w : World) (hs : s.size ≤ 100000) (hok : SpOk (By s)) : Calls Tryz.prog 110 #[.string s] w (SpPost (By s) w) := by
  by_cases h0 : s.size = 0
  · have hn : By s = [] := List.length_eq_zero_iff.1 (by rw [size_list]; exact h0)
    have HN := Lib.hid hn
    clear hn hok
    go_enter Tryz.func110, Tryz.ntmps110
    go_wp2_with fail
    refine bodyPost_ret (results_t3 rfl _ _ _) rfl ?_
    exact ⟨rfl, .inl ⟨by rw [HN.out]; rfl, rfl⟩⟩
  · have hd : By s = s[0] :: (By s).drop 1 := by have := drop_list s 0 (by omega); rwa [List.drop_zero] at this
    have h01 : ¬ (s.size : Int) = 0 := by omega
    have hpos : (0 : Int) < (s.size : Int) := by omega
    have h43 : ((s[0].toNat : Int) == 43) = false := f_eq (d := 43) (fun e => hok.1 _ (by rw [hd, e])) rfl
    by_cases h45 : s[0] = 45
    · have HC : Hid (cpl ((By s).drop 1) INFW = 0) := Lib.hid (hok.2 _ (by rw [← h45]; exact hd))
      have HS : Hid (spF (By s) = none) := Lib.hid (by rw [hd, h45]; rfl)
      have h1 : ((s[0].toNat : Int) == 45) = true := t_eq h45 rfl
      have hcp := cpl_any (s.extract 1 s.size) ⟨#[105, 110, 102, 105, 110, 105, 116, 121]⟩ w (by rw [extract_size]; omega) (by decide)
      have e1 : By (s.extract 1 s.size) = (By s).drop 1 := extract_list s 1
      have e2 : By ⟨#[105, 110, 102, 105, 110, 105, 116, 121]⟩ = INFW := rfl
      rw [e1, e2, HC.out] at hcp
      clear hd h45 hok e1 e2
      go_enter Tryz.func110, Tryz.ntmps110
      go_wp2_with (go_at_call 124; refine hcp.mono ?_; rintro _ wq ⟨rfl, hwq⟩; rw [hwq]; clear hwq)
      refine bodyPost_ret (results_t3 rfl _ _ _) rfl ?_
      exact ⟨rfl, .inl ⟨HS.out, rfl⟩⟩
    · have h45' : ((s[0].toNat : Int) == 45) = false := f_eq h45 rfl
      have hcp := cpl_any s ⟨#[105, 110, 102, 105, 110, 105, 116, 121]⟩ w hs (by decide)
      have hcn := cpl_any s ⟨#[110, 97, 110]⟩ w hs (by decide)
      have e2 : By ⟨#[105, 110, 102, 105, 110, 105, 116, 121]⟩ = INFW := rfl
      have e3 : By ⟨#[110, 97, 110]⟩ = NANW := rfl
      rw [e2] at hcp
      rw [e3] at hcn
      have hc8 := (cpl_le (By s) INFW).2
      have hc3 := (cpl_le (By s) NANW).2
      have l8 : INFW.length = 8 := rfl
      have l3 : NANW.length = 3 := rfl
      rw [l8] at hc8
      rw [l3] at hc3
      have HSP : Hid (spF (By s) = if s[0] = 105 ∨ s[0] = 73 then (if adj (cpl (By s) INFW) = 3 ∨ adj (cpl (By s) INFW) = 8 then some (9218868437227405312, adj (cpl (By s) INFW)) else none) else if s[0] = 110 ∨ s[0] = 78 then (if cpl (By s) NANW = 3 then some (9221120237041090561, 3) else none) else none) := Lib.hid (by
        have e := spF_cons s[0] ((By s).drop 1)
        rw [← hd] at e
        exact e)
      have hinf := inf_any w
      have hnan := nan_any w
      generalize cpl (By s) INFW = a at *
      generalize cpl (By s) NANW = b at *
      clear hd hok e2 e3 l8 l3
      by_cases hi : s[0] = 105 ∨ s[0] = 73
      · have HSP2 : Hid (spF (By s) = if adj a = 3 ∨ adj a = 8 then some (9218868437227405312, adj a) else none) := Lib.hid (by rw [HSP.out, if_pos hi])
        clear HSP hcn hc3 hnan
        have hcase : ((s[0].toNat : Int) == 105) = true ∨ ((s[0].toNat : Int) == 105) = false ∧ ((s[0].toNat : Int) == 73) = true := by
          rcases hi with h | h
          · exact .inl (t_eq h rfl)
          · exact .inr ⟨by rw [h]; decide, t_eq h rfl⟩
        clear hi h45
        obtain rfl | rfl | rfl | rfl | rfl | rfl | rfl | rfl | rfl : a = 0 ∨ a = 1 ∨ a = 2 ∨ a = 3 ∨ a = 4 ∨ a = 5 ∨ a = 6 ∨ a = 7 ∨ a = 8 := by omega
        all_goals
          rcases hcase with h1 | ⟨h1, h2⟩
          all_goals
            go_enter Tryz.func110, Tryz.ntmps110
            go_wp2_with (first | (go_at_call 124; refine hcp.mono ?_; rintro _ wq ⟨rfl, hwq⟩; rw [hwq]; clear hwq) | (go_at_call 125; refine hinf.mono ?_; rintro _ wq ⟨rfl, hwq⟩; rw [hwq]; clear hwq))
            refine bodyPost_ret (results_t3 rfl _ _ _) rfl ?_
            first
              | exact ⟨rfl, .inl ⟨HSP2.out, rfl⟩⟩
              | exact ⟨rfl, .inr ⟨_, _, HSP2.out, rfl⟩⟩
      · have h105 : ((s[0].toNat : Int) == 105) = false := f_eq (d := 105) (fun e => hi (.inl e)) rfl
        have h73 : ((s[0].toNat : Int) == 73) = false := f_eq (d := 73) (fun e => hi (.inr e)) rfl
        by_cases hn : s[0] = 110 ∨ s[0] = 78
        · have HSP2 : Hid (spF (By s) = if b = 3 then some (9221120237041090561, 3) else none) := Lib.hid (by rw [HSP.out, if_neg hi, if_pos hn])
          have hcase : ((s[0].toNat : Int) == 110) = true ∨ ((s[0].toNat : Int) == 110) = false ∧ ((s[0].toNat : Int) == 78) = true := by
            rcases hn with h | h
            · exact .inl (t_eq h rfl)
            · exact .inr ⟨by rw [h]; decide, t_eq h rfl⟩
          clear HSP hcp hc8 hinf hi hn h45
          obtain rfl | rfl | rfl | rfl : b = 0 ∨ b = 1 ∨ b = 2 ∨ b = 3 := by omega
          all_goals
            rcases hcase with h1 | ⟨h1, h2⟩
            all_goals
              go_enter Tryz.func110, Tryz.ntmps110
              go_wp2_with (first | (go_at_call 124; refine hcn.mono ?_; rintro _ wq ⟨rfl, hwq⟩; rw [hwq]; clear hwq) | (go_at_call 126; refine hnan.mono ?_; rintro _ wq ⟨rfl, hwq⟩; rw [hwq]; clear hwq))
              refine bodyPost_ret (results_t3 rfl _ _ _) rfl ?_
              first
                | exact ⟨rfl, .inl ⟨HSP2.out, rfl⟩⟩
                | exact ⟨rfl, .inr ⟨_, _, HSP2.out, rfl⟩⟩
        · have HSP2 : Hid (spF (By s) = none) := Lib.hid (by rw [HSP.out, if_neg hi, if_neg hn])
          have h110 : ((s[0].toNat : Int) == 110) = false := f_eq (d := 110) (fun e => hn (.inl e)) rfl
          have h78 : ((s[0].toNat : Int) == 78) = false := f_eq (d := 78) (fun e => hn (.inr e)) rfl
          clear HSP hcn hc3 hnan hcp hc8 hinf hi hn h45
          go_enter Tryz.func110, Tryz.ntmps110
          go_wp2_with fail
          refine bodyPost_ret (results_t3 rfl _ _ _) rfl ?_
          exact ⟨rfl, .inl ⟨HSP2.out, rfl⟩⟩
end Go.Proofs.YtadpeebcombjnaaGreatDoor
namespace Go.Proofs.YtadpeebcombjnaaGreatDoor
open Go Go.Proofs Go.RowKit Go.Lib
set_option maxRecDepth 100000
/-- What is known of the mantissa. -/
structure MS where
  dot : Bool
  dig : Bool
  nd : Nat
  nm : Nat
  dp : Int
  m : Nat
  tr : Bool
def MS.step (st : MS) (c : UInt8) : MS :=
  if c = 48 ∧ st.nd = 0 then ⟨st.dot, true, st.nd, st.nm, st.dp - 1, st.m, st.tr⟩
  else if st.nm < 19 then ⟨st.dot, true, st.nd + 1, st.nm + 1, st.dp, st.m * 10 + (c.toNat - 48), st.tr⟩
  else ⟨st.dot, true, st.nd + 1, st.nm, st.dp, st.m, st.tr || c != 48⟩
def mF : List UInt8 → MS → MS × List UInt8
  | [], st => (st, [])
  | c :: l, st =>
    if c = 46 then (if st.dot = true then (st, c :: l) else mF l ⟨true, st.dig, st.nd, st.nm, st.nd, st.m, st.tr⟩)
    else if isDig c = true then mF l (st.step c) else (st, c :: l)
def eF : List UInt8 → Nat → Nat × List UInt8
  | [], e => (e, [])
  | c :: l, e => if isDig c = true then eF l (if e < 10000 then e * 10 + (c.toNat - 48) else e) else (e, c :: l)
def msI : MS := ⟨false, false, 0, 0, 0, 0, false⟩
/-- The sign of an exponent, and what stands behind it. -/
def esF : List UInt8 → Int × List UInt8
  | [] => (1, [])
  | c :: l => if c = 43 then (1, l) else if c = 45 then (-1, l) else (1, c :: l)
/-- The digits of an exponent, which has to have one. -/
def edF : List UInt8 → Int → Option (Int × List UInt8)
  | [], _ => none
  | a :: l, sg => if isDig a = true then some (((eF (a :: l) 0).1 : Int) * sg, (eF (a :: l) 0).2) else none
/-- The exponent: what is to be added, and what stands behind it. -/
def exF : List UInt8 → Option (Int × List UInt8)
  | [] => some (0, [])
  | c :: l => if c = 101 ∨ c = 69 then (if l = [] then none else edF (esF l).2 (esF l).1) else some (0, c :: l)
/-- The mantissa, the exponent, whether digits were dropped, what stands behind. -/
def rfF (t : List UInt8) : Option (Nat × Int × Bool × List UInt8) :=
  if (mF t msI).1.dig = false then none else
    (exF (mF t msI).2).map fun p => ((mF t msI).1.m, (if (mF t msI).1.m ≠ 0 then (if (mF t msI).1.dot = true then (mF t msI).1.dp else ((mF t msI).1.nd : Int)) + p.1 - ((mF t msI).1.nm : Int) else 0), (mF t msI).1.tr, p.2)
theorem lowr_any (c : UInt8) (w : World) : Calls Tryz.prog 127 #[.int .u8 (c.toNat : Int)] w fun e w' => e = .returned (.int .u8 (bits BinOp.or IntKind.u8 (c.toNat : Int) 32)) ∧ w' = w := by
  go_enter Tryz.func127, Tryz.ntmps127
  go_wp2
  go_ret
  exact ⟨rfl, rfl⟩
theorem low_e (c : UInt8) : (bits BinOp.or IntKind.u8 (c.toNat : Int) 32 == 101) = decide (c = 101 ∨ c = 69) := by
  have h : ∀ n : Fin 256, (bits BinOp.or IntKind.u8 (n.val : Int) 32 == 101) = decide (n.val = 101 ∨ n.val = 69) := by decide +kernel
  have h2 := h ⟨c.toNat, c.toNat_lt⟩
  rw [h2, decide_eq_decide, ← UInt8.toNat_inj, ← UInt8.toNat_inj]
  rfl
theorem low_x (c : UInt8) : (bits BinOp.or IntKind.u8 (c.toNat : Int) 32 == 120) = decide (c = 120 ∨ c = 88) := by
  have h : ∀ n : Fin 256, (bits BinOp.or IntKind.u8 (n.val : Int) 32 == 120) = decide (n.val = 120 ∨ n.val = 88) := by decide +kernel
  have h2 := h ⟨c.toNat, c.toNat_lt⟩
  rw [h2, decide_eq_decide, ← UInt8.toNat_inj, ← UInt8.toNat_inj]
  rfl
/-- The texts that are read. -/
def RfOk (t : List UInt8) : Prop := (∀ c ∈ t, c ≠ 95) ∧ (∀ c r, t = 48 :: c :: r → ¬ (c = 120 ∨ c = 88)) ∧ ∀ r, t ≠ 43 :: r ∧ t ≠ 45 :: r
/-- What holds of the mantissa's state behind k bytes. -/
structure MB (st : MS) (k : Nat) : Prop where
  nd : st.nd ≤ k
  nm : st.nm ≤ 19
  dp : -(k : Int) ≤ st.dp ∧ st.dp ≤ k
  m : st.m < 10 ^ st.nm
theorem pow10_le {a b : Nat} (h : a ≤ b) : 10 ^ a ≤ 10 ^ b := Nat.pow_le_pow_right (by decide) h
theorem MB.step {st : MS} {k : Nat} (h : MB st k) {c : UInt8} (hc : isDig c = true) : MB (st.step c) (k + 1) := by
  obtain ⟨h1, h2, h3, h4⟩ := h
  have hd := (isDig_iff c).1 hc
  obtain ⟨dot, dig, nd, nm, dp, m, tr⟩ := st
  dsimp only at h1 h2 h3 h4
  unfold MS.step
  dsimp only
  split
  · exact ⟨by dsimp only; omega, h2, by dsimp only; omega, h4⟩
  · split
    · refine ⟨by dsimp only; omega, by dsimp only; omega, by dsimp only; omega, ?_⟩
      dsimp only
      rw [Nat.pow_succ]; omega
    · exact ⟨by dsimp only; omega, h2, by dsimp only; omega, h4⟩
theorem MB.m19 {st : MS} {k : Nat} (h : MB st k) : st.m < 10 ^ 19 := Nat.lt_of_lt_of_le h.m (pow10_le h.nm)
theorem mF_le : ∀ (l : List UInt8) (st : MS), (mF l st).2.length ≤ l.length := by
  intro l
  induction l with
  | nil => intro st; exact Nat.le_refl _
  | cons c l ih =>
    intro st
    rw [mF]
    split
    · split
      · exact Nat.le_refl _
      · exact Nat.le_succ_of_le (ih _)
    · split
      · exact Nat.le_succ_of_le (ih _)
      · exact Nat.le_refl _
theorem mF_mb : ∀ (l : List UInt8) (st : MS) (k : Nat), MB st k → MB (mF l st).1 (k + l.length) := by
  intro l
  induction l with
  | nil => intro st k h; exact h
  | cons c l ih =>
    intro st k h
    have up : MB st (k + (c :: l).length) := by
      obtain ⟨h1, h2, h3, h4⟩ := h
      exact ⟨by rw [List.length_cons]; omega, h2, by rw [List.length_cons]; constructor <;> omega, h4⟩
    rw [mF]
    have e : k + (c :: l).length = k + 1 + l.length := by rw [List.length_cons]; omega
    split
    · split
      · exact up
      · rw [e]
        obtain ⟨h1, h2, h3, h4⟩ := h
        exact ih _ _ ⟨by dsimp only; omega, h2, by dsimp only; omega, h4⟩
    · split
      · rw [e]
        rename_i hc
        exact ih _ _ (h.step hc)
      · exact up
theorem eF_le : ∀ (l : List UInt8) (e : Nat), e ≤ 99999 → (eF l e).1 ≤ 99999 := by
  intro l
  induction l with
  | nil => intro e h; exact h
  | cons c l ih =>
    intro e h
    rw [eF]
    split
    · rename_i hc
      have := (isDig_iff c).1 hc
      refine ih _ ?_
      split <;> omega
    · exact h
end Go.Proofs.YtadpeebcombjnaaGreatDoor
