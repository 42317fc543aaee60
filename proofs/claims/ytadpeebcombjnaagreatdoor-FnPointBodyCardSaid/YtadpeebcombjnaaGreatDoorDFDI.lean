/- Multiprecision decimals: rightShift. -/
import Derived.Test.YtadpeebcombjnaaGreatDoorDADE
import Derived.Deep.CutBlock
import Derived.Scope
namespace Go.Proofs.YtadpeebcombjnaaGreatDoor
open Go Go.Proofs Go.RowKit Go.Lib
set_option maxRecDepth 100000
/-- The first r digits of P, noughts behind its nd digits. -/
def shA (P nd r : Nat) : Nat := P * 10 ^ r / 10 ^ nd
theorem shA_le {P nd r : Nat} (h : r ≤ nd) : shA P nd r = P / 10 ^ (nd - r) := by
  unfold shA
  obtain ⟨e, rfl⟩ := Nat.exists_eq_add_of_le h
  rw [show r + e - r = e from by omega, Nat.add_comm r e, Nat.pow_add, Nat.mul_div_mul_right _ _ (ten_pos r)]
theorem shA_ge {P nd r : Nat} (h : nd ≤ r) : shA P nd r = P * 10 ^ (r - nd) := by
  unfold shA
  obtain ⟨e, rfl⟩ := Nat.exists_eq_add_of_le h
  rw [show nd + e - nd = e from by omega, Nat.add_comm nd e, Nat.pow_add, ← Nat.mul_assoc, Nat.mul_div_cancel _ (ten_pos nd)]
def shC (P nd r : Nat) : Nat := if r < nd then dgt P (nd - 1 - r) else 0
theorem shC_lt (P nd r : Nat) : shC P nd r < 10 := by
  unfold shC
  split
  · exact dgt_lt _ _
  · decide
theorem shA_succ (P nd r : Nat) : shA P nd (r + 1) = 10 * shA P nd r + shC P nd r := by
  unfold shC
  by_cases h : r < nd
  · rw [if_pos h, shA_le (r := r + 1) h, shA_le (Nat.le_of_lt h), show nd - (r + 1) = nd - 1 - r from by omega, div_split P (nd - 1 - r), show nd - 1 - r + 1 = nd - r from by omega]
  · rw [if_neg h, shA_ge (r := r + 1) (by omega), shA_ge (r := r) (by omega), show r + 1 - nd = r - nd + 1 from by omega, Nat.pow_succ, ← Nat.mul_assoc, Nat.add_zero, Nat.mul_comm]
theorem shA_zero {P nd : Nat} (h : P < 10 ^ nd) : shA P nd 0 = 0 := by
  rw [shA_le (Nat.zero_le _), Nat.sub_zero, Nat.div_eq_of_lt h]
theorem shA_mono (P nd r e : Nat) : shA P nd r * 10 ^ e ≤ shA P nd (r + e) := by
  induction e with
  | zero => simp
  | succ e ih => rw [← Nat.add_assoc, shA_succ, Nat.pow_succ, ← Nat.mul_assoc]; omega
theorem shA_low {P nd : Nat} (h1 : 1 ≤ nd) (hP : 10 ^ (nd - 1) ≤ P) (r : Nat) : 10 ^ r ≤ shA P nd (r + 1) := by
  have h := shA_mono P nd 1 r
  have e : 1 ≤ shA P nd 1 := by
    rw [shA_le h1, le_div_iff']
    omega
  rw [Nat.add_comm 1 r] at h
  exact Nat.le_trans (by simpa using Nat.mul_le_mul_right (10 ^ r) e) h
theorem least_eq {p : Nat → Prop} {n : Nat} (h : p n) (hl : ∀ m, m < n → ¬ p m) : leastOf p = n := by
  have hs := leastOf_spec ⟨n, h⟩
  rcases Nat.lt_or_ge (leastOf p) n with h1 | h1
  · exact absurd hs.1 (hl _ h1)
  · exact Nat.le_antisymm (hs.2 n h) h1
/-- How many digits are read before the first is put down. -/
noncomputable def shR (k P nd : Nat) : Nat := leastOf fun r => 2 ^ k ≤ shA P nd r
/-- Where no digit is left. -/
noncomputable def shE (k P nd : Nat) : Nat := leastOf fun r => shR k P nd ≤ r ∧ nd ≤ r ∧ shA P nd r % (10 * 2 ^ k) = 0
/-- A shift to the right leaves this number, of so many digits. -/
noncomputable def shB (k P nd : Nat) : Nat := shA P nd (shE k P nd - 1) / 2 ^ k
noncomputable def shW (k P nd : Nat) : Nat := shE k P nd - shR k P nd
/-- A decimal of which i digits F are put down, and whose digits from r on are still to be read. -/
structure RS (C : Array Value) (P nd : Nat) (dp : Int) (neg tr : Bool) (F : Nat → Nat) (i r : Nat) : Prop where
  size : C.size = 804
  byte : ∀ j, j < 800 → ∃ x : Nat, x < 256 ∧ C[j]? = some (.int .u8 (x : Nat))
  old : ∀ j, r ≤ j → j < nd → C[j]? = some (.int .u8 (48 + dgt P (nd - 1 - j) : Nat))
  new : ∀ j, j < i → j < 800 → C[j]? = some (.int .u8 (48 + F j : Nat))
  cnd : C[800]? = some (.int .i64 (nd : Nat))
  cdp : C[801]? = some (.int .i64 dp)
  cneg : C[802]? = some (.bool neg)
  ctr : C[803]? = some (.bool tr)
theorem RS.of_dc {C : Array Value} {P nd : Nat} {dp : Int} {neg tr : Bool} (h : DC C P nd dp neg tr) (dp' : Int) (F : Nat → Nat) (r : Nat) : RS (C.setIfInBounds 801 (.int .i64 dp')) P nd dp' neg tr F 0 r := by
  have h8 := h.le
  refine ⟨by simpa using h.size, fun j hj => ?_, fun j h1 h2 => ?_, fun j h1 => absurd h1 (Nat.not_lt_zero _), ?_, ?_, ?_, ?_⟩
  · rw [get_set _ _ _ _ (by omega)]; exact h.byte j hj
  · rw [get_set _ _ _ _ (by omega)]; exact h.dig j h2
  · rw [get_set _ _ _ _ (by omega)]; exact h.cnd
  · rw [get_self _ _ _ (by rw [h.size]; decide)]
  · rw [get_set _ _ _ _ (by omega)]; exact h.cneg
  · rw [get_set _ _ _ _ (by omega)]; exact h.ctr
theorem RS.put {C : Array Value} {P nd : Nat} {dp : Int} {neg tr : Bool} {F : Nat → Nat} {i r : Nat} (h : RS C P nd dp neg tr F i r) (h8 : i < 800) (hF : F i < 10) {r' : Nat} (hr : r ≤ r') (hi : i < r') (_hn : nd ≤ 800) :
    RS (C.setIfInBounds i (.int .u8 (48 + F i : Nat))) P nd dp neg tr F (i + 1) r' := by
  refine ⟨by simpa using h.size, fun j hj => ?_, fun j h1 h2 => ?_, fun j h1 h2 => ?_, ?_, ?_, ?_, ?_⟩
  · by_cases e : i = j
    · subst e; exact ⟨48 + F i, by omega, get_self _ _ _ (by rw [h.size]; omega)⟩
    · rw [get_set _ _ _ _ e]; exact h.byte j hj
  · rw [get_set _ _ _ _ (by omega)]; exact h.old j (by omega) h2
  · by_cases e : i = j
    · subst e; rw [get_self _ _ _ (by rw [h.size]; omega)]
    · rw [get_set _ _ _ _ e]; exact h.new j (by omega) h2
  · rw [get_set _ _ _ _ (by omega)]; exact h.cnd
  · rw [get_set _ _ _ _ (by omega)]; exact h.cdp
  · rw [get_set _ _ _ _ (by omega)]; exact h.cneg
  · rw [get_set _ _ _ _ (by omega)]; exact h.ctr
theorem RS.skip {C : Array Value} {P nd : Nat} {dp : Int} {neg tr : Bool} {F : Nat → Nat} {i r : Nat} (h : RS C P nd dp neg tr F i r) (h8 : 800 ≤ i) : RS C P nd dp neg tr F (i + 1) r :=
  ⟨h.size, h.byte, h.old, fun j _ h2 => h.new j (by omega) h2, h.cnd, h.cdp, h.cneg, h.ctr⟩
theorem RS.later {C : Array Value} {P nd : Nat} {dp : Int} {neg tr : Bool} {F : Nat → Nat} {i r r' : Nat} (h : RS C P nd dp neg tr F i r) (hr : r ≤ r') : RS C P nd dp neg tr F i r' :=
  ⟨h.size, h.byte, fun j h1 h2 => h.old j (Nat.le_trans hr h1) h2, h.new, h.cnd, h.cdp, h.cneg, h.ctr⟩
theorem RS.lose {C : Array Value} {P nd : Nat} {dp : Int} {neg tr : Bool} {F : Nat → Nat} {i r : Nat} (h : RS C P nd dp neg tr F i r) (h8 : 800 ≤ i) (hn : nd ≤ 800) : RS (C.setIfInBounds 803 (.bool true)) P nd dp neg true F (i + 1) r := by
  refine ⟨by simpa using h.size, fun j hj => ?_, fun j h1 h2 => ?_, fun j h1 h2 => ?_, ?_, ?_, ?_, ?_⟩
  · rw [get_set _ _ _ _ (by omega)]; exact h.byte j hj
  · rw [get_set _ _ _ _ (by omega)]; exact h.old j h1 h2
  · rw [get_set _ _ _ _ (by omega)]; exact h.new j (by omega) h2
  · rw [get_set _ _ _ _ (by omega)]; exact h.cnd
  · rw [get_set _ _ _ _ (by omega)]; exact h.cdp
  · rw [get_set _ _ _ _ (by omega)]; exact h.cneg
  · rw [get_self _ _ _ (by rw [h.size]; decide)]
theorem RS.finish {C : Array Value} {P nd : Nat} {dp : Int} {neg tr : Bool} {F : Nat → Nat} {W r B : Nat} (h : RS C P nd dp neg tr F W r) (hF : ∀ j, j < W → F j = dgt B (W - 1 - j)) (hB : B < 10 ^ W) :
    DC (C.setIfInBounds 800 (.int .i64 (min W 800 : Nat))) (B / 10 ^ (W - 800)) (min W 800) dp neg tr := by
  refine ⟨by simpa using h.size, fun j hj => ?_, fun j hj => ?_, ?_, ?_, ?_, ?_, Nat.min_le_right _ _, ?_⟩
  · rw [get_set _ _ _ _ (by omega)]; exact h.byte j hj
  · rw [get_set _ _ _ _ (by omega), h.new j (by omega) (by omega), dgt_pow, hF j (by omega), show W - 800 + (min W 800 - 1 - j) = W - 1 - j from by omega]
  · rw [get_self _ _ _ (by rw [h.size]; decide)]
  · rw [get_set _ _ _ _ (by omega)]; exact h.cdp
  · rw [get_set _ _ _ _ (by omega)]; exact h.cneg
  · rw [get_set _ _ _ _ (by omega)]; exact h.ctr
  · rw [Nat.div_lt_iff_lt_mul (ten_pos _), ← Nat.pow_add, show min W 800 + (W - 800) = W from by omega]; exact hB
/-- The digit that stands at place j of the result. -/
def shF (k P nd r j : Nat) : Nat := shA P nd (r + j) / 2 ^ k % 10
theorem shB_dig (k P nd R r j : Nat) (hj : r + j ≤ R) : dgt (shA P nd R / 2 ^ k) (R - (r + j)) = shF k P nd r j := by
  have h : ∀ e R, shA P nd (R + e) / 10 ^ e = shA P nd R := by
    intro e
    induction e with
    | zero => intro R; simp
    | succ e ih =>
      intro R
      rw [show R + (e + 1) = (R + 1) + e from by omega, Nat.pow_succ, ← Nat.div_div_eq_div_mul, ih, shA_succ]
      have := shC_lt P nd R
      omega
  unfold dgt shF
  obtain ⟨e, rfl⟩ := Nat.exists_eq_add_of_le hj
  rw [show r + j + e - (r + j) = e from by omega, Nat.div_div_eq_div_mul, Nat.mul_comm, ← Nat.div_div_eq_div_mul, h]
theorem mod_step {a p c : Nat} (hc : c < 10) : (10 * a + c) % (10 * p) = 10 * (a % p) + c := by
  rcases Nat.eq_zero_or_pos p with h | h
  · subst h; simp
  · have e := Nat.div_add_mod a p
    have hl := Nat.mod_lt a h
    rw [show 10 * a + c = (10 * (a % p) + c) + 10 * p * (a / p) from by rw [Nat.mul_assoc]; omega, Nat.add_mul_mod_self_left, Nat.mod_eq_of_lt (by omega)]
theorem shA_up {P nd r p : Nat} (h : shA P nd r < p) (e : Nat) : shA P nd (r + e) < p * 10 ^ e := by
  induction e with
  | zero => simpa using h
  | succ e ih =>
    rw [← Nat.add_assoc, shA_succ, Nat.pow_succ, ← Nat.mul_assoc]
    have := shC_lt P nd (r + e)
    omega
theorem shA_ten (P nd r : Nat) : shA P nd (r + 1) / 10 = shA P nd r := by
  rw [shA_succ]
  have := shC_lt P nd r
  omega
/-- The digits lost so far, and one more. -/
theorem shr_lost {P nd R p e q : Nat} (hq : shA P nd (R + 1) / p % 10 = q) : decide (shA P nd (R + 1) / p % 10 ^ (e + 1) ≠ 0) = (decide (shA P nd R / p % 10 ^ e ≠ 0) || decide (q ≠ 0)) := by
  have h1 : shA P nd (R + 1) / p = 10 * (shA P nd R / p) + q := by
    have : shA P nd (R + 1) / p / 10 = shA P nd R / p := by rw [Nat.div_div_eq_div_mul, Nat.mul_comm, ← Nat.div_div_eq_div_mul, shA_ten]
    omega
  have hq10 : q < 10 := by omega
  rw [h1, show 10 ^ (e + 1) = 10 * 10 ^ e from by rw [Nat.pow_succ, Nat.mul_comm], mod_step hq10, Bool.eq_iff_iff, Bool.or_eq_true, decide_eq_true_eq, decide_eq_true_eq, decide_eq_true_eq]
  omega
theorem u64_mask {n p M : Nat} {k : Nat} (hp : 2 ^ k = p) (hM : M + 1 = p) (hp60 : p ≤ 2 ^ 60) (hn : n < 10 * p) : bits BinOp.and IntKind.u64 (n : Int) (M : Int) = ((n % p : Nat) : Int) := by
  rw [u64_and_nat n M (by omega) (by omega), show M = 2 ^ k - 1 from by omega, Nat.and_two_pow_sub_one_eq_mod, hp]
theorem int_quo {n p k : Nat} (hp : 2 ^ k = p) : (n : Int) / 2 ^ k = ((n / p : Nat) : Int) := by
  rw [show (2 : Int) ^ k = (p : Int) from by rw [← hp, Int.natCast_pow]; rfl, ← Int.natCast_ediv]
theorem pow10_le' {a b : Nat} (h : a ≤ b) : 10 ^ a ≤ 10 ^ b := Nat.pow_le_pow_right (by decide) h
theorem quo_zero {n p k : Nat} (hp : 2 ^ k = p) (hp1 : 0 < p) : ((n : Int) / 2 ^ k == 0) = decide (n < p) := by
  rw [Bool.eq_iff_iff, beq_iff_eq, decide_eq_true_eq, show (2 : Int) ^ k = (p : Int) from by rw [← hp, Int.natCast_pow]; rfl, ← Int.natCast_ediv]
  have h : n / p = 0 ↔ p = 0 ∨ n < p := Nat.div_eq_zero_iff
  generalize n / p = q at *
  omega
set_option maxHeartbeats 8000000 in
theorem shr_any (g k P nd : Nat) (dp : Int) (neg tr : Bool) (w : World) (hd : Dc w g P nd dp neg tr) (h1 : 1 ≤ nd) (hP : 10 ^ (nd - 1) ≤ P) (hk1 : 1 ≤ k) (hk : k ≤ 60) (hdp : -100000 ≤ dp ∧ dp ≤ 100000) :
    Calls Tryz.prog 143 #[.pointer (some ⟨g, 0, none⟩), .int .u64 (k : Nat)] w (NPost g (shB k P nd) (shW k P nd) (dp - (shR k P nd : Nat) + 1) neg tr w) := by
  obtain ⟨C, hrow, hc⟩ := hd
  have c0 : w.cell? ⟨g, 800, none⟩ = some (.int .i64 (nd : Nat)) := hrow.cell hc.cnd
  have cf := hrow.frozen
  have hn8 := hc.le
  have HC := Lib.hid hc
  have HR := Lib.hid hrow
  have hp60 : 2 ^ k ≤ 2 ^ 60 := Nat.pow_le_pow_right (by decide) hk
  have hp1 : 0 < 2 ^ k := Nat.two_pow_pos k
  obtain ⟨p, hp⟩ : ∃ p, 2 ^ k = p := ⟨_, rfl⟩
  have HP := Lib.hid hp
  have HLOW := Lib.hid (shA_low h1 hP)
  rw [hp] at hp60 hp1
  clear hrow hc hp hP
  go_enter Tryz.func143, Tryz.ntmps143
  go_upto_block 0 with (fail)
  go_cut [4, 6] from 12 to 48 (fun vr vn wx => w = wx ∧ ∃ r n : Nat, vr = .int .i64 (r : Nat) ∧ vn = .int .u64 (n : Nat) ∧ n < 10 * p ∧ r ≤ 20 ∧ Hid (shA P nd r = n) ∧ Hid (shR k P nd = r))
  case first =>
    go_wp2_with fail
    go_loopg [4, 6] 20 (fun gh vr vn wr => wr = w ∧ ∃ r n : Nat, vr = .int .i64 (r : Nat) ∧ vn = .int .u64 (n : Nat) ∧ r + gh = 20 ∧ n < 10 * p ∧ Hid (shA P nd r = n) ∧ Hid (∀ m, m < r → shA P nd m < p))
    case atStart => exact ⟨rfl, 0, 0, rfl, rfl, rfl, by omega, Lib.hid (shA_zero HC.out.lt), Lib.hid (fun m hm => absurd hm (Nat.not_lt_zero _))⟩
    case round =>
      obtain ⟨rfl, r, n, rfl, rfl, hr, hn10, HA, HB⟩ := hrel
      have cfin : ∀ r n : Nat, ¬ n < p → Hid (shA P nd r = n) → Hid (∀ m, m < r → shA P nd m < p) → Hid (shR k P nd = r) := fun r n h hA hB => Lib.hid (least_eq (by rw [HP.out, hA.out]; omega) (fun m hm hc => by have := hB.out m hm; rw [HP.out] at hc; omega))
      have CF := Lib.hid cfin
      clear cfin
      by_cases hnp : n < p
      · have hb : ((n : Int) / 2 ^ k == 0) = true := by rw [quo_zero HP.out hp1, decide_eq_true hnp]
        have hr20 : r < 20 := by
          rcases Nat.lt_or_ge r 20 with h | h
          · exact h
          · have := HLOW.out (r - 1)
            rw [show r - 1 + 1 = r from by omega, HA.out] at this
            have h19 := pow10_le' (show 19 ≤ r - 1 by omega)
            omega
        have HB2 : Hid (∀ m, m < r + 1 → shA P nd m < p) := Lib.hid (fun m hm => by
          rcases Nat.lt_succ_iff_lt_or_eq.1 hm with h | h
          · exact HB.out m h
          · rw [h, HA.out]; exact hnp)
        by_cases hrn : r < nd
        · have hc1 := HC.out.dig r hrn
          have c1 := HR.out.cell hc1
          have hs := shA_succ P nd r
          unfold shC at hs
          rw [if_pos hrn, HA.out] at hs
          have hd9 := dgt_lt P (nd - 1 - r)
          obtain ⟨a, ha⟩ : ∃ a, dgt P (nd - 1 - r) = a := ⟨_, rfl⟩
          rw [ha] at c1 hd9 hs
          have HS := Lib.hid hs
          have hrn' : ¬ (nd : Int) ≤ (r : Int) := by omega
          have hr8 : (r : Int) < 800 := by omega
          clear hc1 ha hs
          go_wp2_with fail
          go_roundg (20 - (r + 1))
          case measure => omega
          case rel => exact ⟨rfl, r + 1, 10 * n + a, by go_num, congrArg (Value.int .u64) (by omega), by omega, by omega, HS, HB2⟩
        · have hrn' : (nd : Int) ≤ (r : Int) := by omega
          have hn0 : ((n : Int) == 0) = false := by
            rw [beq_eq_false_iff_ne]
            have := HLOW.out (r - 1)
            rw [show r - 1 + 1 = r from by omega, HA.out] at this
            have := ten_pos (r - 1)
            omega
          have HBB := Lib.hid hb
          have HNN := Lib.hid hn0
          go_wp2_with fail
          clear hb hn0 hnp hr20 HB2
          go_loopg [4, 6] gk (fun gh vr vn w2 => w2 = wr ∧ ∃ r n : Nat, vr = .int .i64 (r : Nat) ∧ vn = .int .u64 (n : Nat) ∧ r + gh = 20 ∧ n < 10 * p ∧ Hid (nd ≤ r) ∧ Hid (shA P nd r = n) ∧ Hid (∀ m, m < r → shA P nd m < p))
          case atStart => exact ⟨rfl, r, n, rfl, rfl, hr, hn10, Lib.hid (by omega), HA, HB⟩
          case round =>
            clear HA HB hn10 hr hrn hrn' HBB HNN
            obtain ⟨rfl, r, n, rfl, rfl, hr, hn10, HND, HA, HB⟩ := hrel
            by_cases hnp : n < p
            · have hb : ((n : Int) / 2 ^ k == 0) = true := by rw [quo_zero HP.out hp1, decide_eq_true hnp]
              have hr20 : r < 20 := by
                rcases Nat.lt_or_ge r 20 with h | h
                · exact h
                · have := HLOW.out (r - 1)
                  rw [show r - 1 + 1 = r from by omega, HA.out] at this
                  have h19 := pow10_le' (show 19 ≤ r - 1 by omega)
                  omega
              have HB2 : Hid (∀ m, m < r + 1 → shA P nd m < p) := Lib.hid (fun m hm => by
                rcases Nat.lt_succ_iff_lt_or_eq.1 hm with h | h
                · exact HB.out m h
                · rw [h, HA.out]; exact hnp)
              have HS : Hid (shA P nd (r + 1) = 10 * n) := Lib.hid (by rw [shA_succ, shC, if_neg (by have := HND.out; omega), HA.out, Nat.add_zero])
              go_wp2_with fail
              go_roundg (20 - (r + 1))
              case measure => omega
              case rel => exact ⟨rfl, r + 1, 10 * n, by go_num, congrArg (Value.int .u64) (by omega), by omega, by omega, Lib.hid (Nat.le_succ_of_le HND.out), HS, HB2⟩
            · have hb : ((n : Int) / 2 ^ k == 0) = false := by rw [quo_zero HP.out hp1, decide_eq_false hnp]
              go_wp2_with fail
              go_meet
              exact ⟨rfl, r, n, rfl, rfl, hn10, by omega, HA, CF.out r n hnp HA HB⟩
      · have hb : ((n : Int) / 2 ^ k == 0) = false := by rw [quo_zero HP.out hp1, decide_eq_false hnp]
        go_wp2_with fail
        go_meet
        exact ⟨rfl, r, n, rfl, rfl, hn10, by omega, HA, CF.out r n hnp HA HB⟩
  case rest =>
    obtain ⟨rfl, r0, n0, rfl, rfl, hn10, hr20, HA0, HR0⟩ := hcut
    have c2 := HR.out.cell HC.out.cdp
    have em1 : IntKind.u64.wrap ((2 : Int) ^ k) = (p : Int) := by
      rw [show (2 : Int) ^ k = (p : Int) from by rw [← HP.out, Int.natCast_pow]; rfl]
      exact IntWalk.u64_in _ (by omega)
    obtain ⟨M, hM⟩ : ∃ M, M + 1 = p := ⟨p - 1, by omega⟩
    have em2 : IntKind.u64.wrap ((p : Int) - 1) = (M : Int) := by
      rw [show (p : Int) - 1 = (M : Int) from by omega]
      exact IntWalk.u64_in _ (by omega)
    have hr01 : 1 ≤ r0 := by
      rcases Nat.eq_zero_or_pos r0 with h | h
      · have hx := (leastOf_spec (p := fun r => 2 ^ k ≤ shA P nd r) ⟨20, by
          have : 10 ^ 19 ≤ shA P nd 20 := HLOW.out 19
          have h19 := HP.out
          show 2 ^ k ≤ shA P nd 20
          omega⟩).1
        have hx : 2 ^ k ≤ shA P nd (shR k P nd) := hx
        rw [HR0.out, h, shA_zero HC.out.lt] at hx
        have := HP.out
        omega
      · exact h
    have hlow0 : p ≤ n0 ∧ shA P nd (r0 - 1) < p := by
      have hx := leastOf_spec (p := fun r => 2 ^ k ≤ shA P nd r) ⟨20, by
          have : 10 ^ 19 ≤ shA P nd 20 := HLOW.out 19
          have h19 := HP.out
          show 2 ^ k ≤ shA P nd 20
          omega⟩
      have hx1 : 2 ^ k ≤ shA P nd (shR k P nd) := hx.1
      rw [HR0.out, HA0.out, HP.out] at hx1
      refine ⟨hx1, ?_⟩
      rcases Nat.lt_or_ge (shA P nd (r0 - 1)) p with h | h
      · exact h
      · have hx2 : shR k P nd ≤ r0 - 1 := hx.2 (r0 - 1) (by rw [HP.out]; exact h)
        rw [HR0.out] at hx2
        omega
    have HL0 := Lib.hid hlow0
    have HM0 := Lib.hid hM
    clear hM hlow0
    go_wp2_with fail
    go_loopg [4, 5, 6] (nd - r0) (fun gh vr vw vn wr => ∃ i n : Nat, vr = .int .i64 (r0 + i : Nat) ∧ vw = .int .i64 (i : Nat) ∧ vn = .int .u64 (n : Nat) ∧ gh = nd - (r0 + i) ∧ (i = 0 ∨ r0 + i ≤ nd) ∧ n < 10 * p ∧ Hid (shA P nd (r0 + i) % (10 * p) = n) ∧ Hid (Mod (· = g) w wr) ∧ ∃ C', Hid (Row wr g C' 192) ∧ Hid (RS C' P nd (dp - (r0 - 1)) neg tr (shF k P nd r0) i (r0 + i)))
    case atStart => exact ⟨0, n0, rfl, rfl, rfl, rfl, .inl rfl, hn10, Lib.hid (by rw [Nat.add_zero, HA0.out, Nat.mod_eq_of_lt hn10]), Lib.hid (set1_mod (Mod.refl _ _) _ _), _, Lib.hid (HR.out.set 801 _), Lib.hid (RS.of_dc HC.out _ _ _)⟩
    case round =>
      obtain ⟨i, n, rfl, rfl, rfl, hgh, hi, hn, HA, HM, C', HR', HS⟩ := hrel
      have c1 := HR'.out.cell HS.out.cnd
      have cf := HR'.out.frozen
      obtain ⟨q, hq⟩ : ∃ q, n / p = q := ⟨_, rfl⟩
      obtain ⟨m, hm⟩ : ∃ m, n % p = m := ⟨_, rfl⟩
      have eq1 : (n : Int) / 2 ^ k = (q : Int) := by rw [int_quo HP.out, hq]
      have em3 : bits BinOp.and IntKind.u64 (n : Int) (M : Int) = (m : Int) := by rw [u64_mask HP.out HM0.out hp60 hn, hm]
      have hq10 : q < 10 := by rw [← hq]; exact Nat.div_lt_of_lt_mul (by omega)
      have hmp : m < p := by rw [← hm]; exact Nat.mod_lt _ hp1
      have HF : Hid (shF k P nd r0 i = q) := Lib.hid (by
        unfold shF
        rw [HP.out, ← hq, ← HA.out, Nat.mod_mul_left_div_self])
      have HMM : Hid (shA P nd (r0 + i) % p = m) := Lib.hid (by rw [← hm, ← HA.out, Nat.mod_mul_left_mod])
      clear hq hm
      by_cases hlt : r0 + i < nd
      · have hc2 := HS.out.old (r0 + i) (Nat.le_refl _) hlt
        have c3 := HR'.out.cell hc2
        have hd9 := dgt_lt P (nd - 1 - (r0 + i))
        obtain ⟨a, ha⟩ : ∃ a, dgt P (nd - 1 - (r0 + i)) = a := ⟨_, rfl⟩
        rw [ha] at c3 hd9
        have HN : Hid (shA P nd (r0 + i + 1) % (10 * p) = 10 * m + a) := Lib.hid (by rw [shA_succ, shC, if_pos hlt, ha, mod_step hd9, HMM.out])
        obtain ⟨y, _, hy⟩ := HS.out.byte i (by omega)
        have c4 := HR'.out.cell hy
        have hlt' : ((r0 : Int) + (i : Int)) < (nd : Int) := by omega
        have hi8 : (i : Int) < 800 := by omega
        have hri8 : (r0 : Int) + (i : Int) < 800 := by omega
        clear hc2 ha hy
        go_wp2_with fail
        go_roundg (nd - (r0 + (i + 1)))
        case measure => omega
        case rel =>
          have hput := HS.out.put (by omega) (by rw [HF.out]; exact hq10) (Nat.le_succ (r0 + i)) (by omega) hn8
          rw [HF.out, show ((48 + q : Nat) : Int) = (q : Int) + 48 from by omega] at hput
          exact ⟨i + 1, 10 * m + a, by go_num, by go_num, congrArg (Value.int .u64) (by omega), rfl, .inr (by omega), by omega, HN, Lib.hid (set1_mod HM.out _ _), _, Lib.hid (HR'.out.set i _), Lib.hid hput⟩
      · have hlt' : ¬ ((r0 : Int) + (i : Int)) < (nd : Int) := by omega
        have hi8 : i ≤ 800 := by omega
        have HI := Lib.hid hi
        have hri : r0 + i ≤ nd + 20 := by omega
        have hri0 : i = 0 ∨ r0 + i = nd := by omega
        have HRI := Lib.hid hri0
        clear eq1 em3 hq10 hmp HF HMM c2 hgh hi hri0
        go_wp2_with fail
        go_loopg [5, 6] (nd + k + 21 - (r0 + i)) (fun gh vw vn wr => ∃ R n W : Nat, vw = .int .i64 (W : Nat) ∧ Hid (W = min (R - r0) 800) ∧ W ≤ 800 ∧ vn = .int .u64 (n : Nat) ∧ R + gh = nd + k + 21 ∧ r0 ≤ R ∧ nd ≤ R ∧ n < 10 * p ∧ Hid (shA P nd R % (10 * p) = n) ∧ Hid (∀ m, r0 ≤ m → nd ≤ m → m < R → shA P nd m % (10 * p) ≠ 0) ∧ Hid (Mod (· = g) w wr) ∧ ∃ C', Hid (Row wr g C' 192) ∧ Hid (RS C' P nd (dp - (r0 - 1)) neg (tr || decide (shA P nd (R - 1) / p % 10 ^ (R - r0 - 800) ≠ 0)) (shF k P nd r0) (R - r0) R))
        case atStart =>
          refine ⟨r0 + i, n, i, rfl, Lib.hid (by omega), hi8, rfl, by omega, by omega, by omega, hn, HA, Lib.hid (fun m h1 h2 h3 => ?_), HM, C', HR', ?_⟩
          · rcases HRI.out with h | h <;> omega
          · have e : r0 + i - r0 - 800 = 0 := by omega
            have e2 : r0 + i - r0 = i := by omega
            rw [e, e2, Nat.pow_zero, Nat.mod_one]
            simpa using HS
        case round =>
          clear HA HM c1 cf HR' HS C' hi8 hri HRI HI hlt hlt' hn
          obtain ⟨R, n, W, rfl, HW, hW8, rfl, hgh, hR1, hR2, hn, HA, HB, HM, C', HR', HS⟩ := hrel
          have cf := HR'.out.frozen
          by_cases hn0 : n = 0
          · subst hn0
            have HE : Hid (shE k P nd = R) := Lib.hid (least_eq ⟨by rw [HR0.out]; exact hR1, hR2, by rw [HP.out]; exact HA.out⟩ (fun m hm hc => by
              rw [HR0.out, HP.out] at hc
              exact HB.out m hc.1 hc.2.1 hm hc.2.2))
            have c1 := HR'.out.cell HS.out.cnd
            go_wp2_with fail
            have hB : shA P nd (R - 1) / p < 10 ^ (R - r0) := by
              rw [Nat.div_lt_iff_lt_mul hp1, Nat.mul_comm]
              have h := shA_up HL0.out.2 (R - r0)
              rwa [show r0 - 1 + (R - r0) = R - 1 from by omega] at h
            have hD : Dc (wr.setCell ⟨g, 800, none⟩ (.int .i64 (W : Nat))) g (shA P nd (R - 1) / p / 10 ^ (R - r0 - 800)) (min (R - r0) 800) (dp - (r0 - 1)) neg (tr || decide (shA P nd (R - 1) / p % 10 ^ (R - r0 - 800) ≠ 0)) := by
              rw [HW.out]
              refine ⟨_, HR'.out.set 800 _, HS.out.finish (fun j hj => ?_) hB⟩
              have h := shB_dig k P nd (R - 1) r0 j (by omega)
              rw [HP.out] at h
              rw [← h, show R - 1 - (r0 + j) = R - r0 - 1 - j from by omega]
            refine (trim_any g _ _ _ _ _ _ hD).mono ?_
            rintro _ w2 ⟨rfl, hm2, hd2⟩
            go_wp2_with fail
            go_end0
            unfold shB shW
            rw [HE.out, HR0.out, HP.out]
            rw [show dp - (r0 - 1 : Int) = dp - (r0 : Nat) + 1 from by omega] at hd2
            exact ⟨rfl, (set1_mod HM.out _ _).trans hm2 (fun _ _ h => h), hd2⟩
          · have hRk : R ≤ nd + k := by
              rcases Nat.lt_or_ge (nd + k) R with h | h
              · exfalso
                apply hn0
                obtain ⟨e, rfl⟩ : ∃ e, R = nd + k + 1 + e := ⟨R - (nd + k + 1), by omega⟩
                rw [← HA.out, shA_ge hR2, show nd + k + 1 + e - nd = e + (k + 1) from by omega, Nat.pow_add, ← HP.out, Nat.pow_succ, show (10 : Nat) ^ k = 5 ^ k * 2 ^ k from ten_k k]
                rw [show P * (10 ^ e * (5 ^ k * 2 ^ k * 10)) = (10 * 2 ^ k) * (P * 10 ^ e * 5 ^ k) from by ac_rfl, Nat.mul_mod_right]
              · exact h
            obtain ⟨q, hq⟩ : ∃ q, n / p = q := ⟨_, rfl⟩
            obtain ⟨m, hm⟩ : ∃ m, n % p = m := ⟨_, rfl⟩
            have eq1 : (n : Int) / 2 ^ k = (q : Int) := by rw [int_quo HP.out, hq]
            have em3 : bits BinOp.and IntKind.u64 (n : Int) (M : Int) = (m : Int) := by rw [u64_mask HP.out HM0.out hp60 hn, hm]
            have hq10 : q < 10 := by rw [← hq]; exact Nat.div_lt_of_lt_mul (by omega)
            have hmp : m < p := by rw [← hm]; exact Nat.mod_lt _ hp1
            have hFq : shA P nd R / p % 10 = q := by rw [← hq, ← HA.out, Nat.mod_mul_left_div_self]
            have HF : Hid (shF k P nd r0 (R - r0) = q) := Lib.hid (by
              unfold shF
              rw [HP.out, show r0 + (R - r0) = R from by omega, hFq])
            have HN : Hid (shA P nd (R + 1) % (10 * p) = 10 * m) := Lib.hid (by rw [shA_succ, shC, if_neg (by omega), mod_step (by decide), Nat.add_zero, ← hm, ← HA.out, Nat.mod_mul_left_mod])
            have HB2 : Hid (∀ m, r0 ≤ m → nd ≤ m → m < R + 1 → shA P nd m % (10 * p) ≠ 0) := Lib.hid (fun m h1 h2 h3 => by
              rcases Nat.lt_succ_iff_lt_or_eq.1 h3 with h | h
              · exact HB.out m h1 h2 h
              · rw [h, HA.out]; exact hn0)
            have HFQ := Lib.hid hFq
            have hn1 : (0 : Int) < (n : Int) := by omega
            clear hq hm hFq hn0
            have esub : R + 1 - r0 = R - r0 + 1 := by omega
            by_cases h8 : R - r0 < 800
            · obtain rfl : W = R - r0 := by have := HW.out; omega
              obtain ⟨v, hv⟩ : ∃ v, R - r0 = v := ⟨_, rfl⟩
              have HS2 := HS
              rw [hv] at HS2 HF
              rw [hv] at h8 hW8
              have HV := Lib.hid hv
              obtain ⟨y, _, hy⟩ := HS2.out.byte v h8
              have c4 := HR'.out.cell hy
              have h8' : (v : Int) < 800 := by omega
              rw [hv]
              clear hv hy HS esub
              go_wp2_with fail
              go_roundg (nd + k + 21 - (R + 1))
              case measure => omega
              case rel =>
                have hput := HS2.out.put h8 (by rw [HF.out]; exact hq10) (Nat.le_succ R) (by have := HV.out; omega) hn8
                rw [HF.out, show ((48 + q : Nat) : Int) = (q : Int) + 48 from by omega] at hput
                refine ⟨R + 1, 10 * m, v + 1, by go_num, Lib.hid (by have := HV.out; omega), by omega, congrArg (Value.int .u64) (by omega), by omega, by omega, by omega, by omega, HN, HB2, Lib.hid (set1_mod HM.out _ _), _, Lib.hid (HR'.out.set v _), ?_⟩
                have e1 : R + 1 - r0 = v + 1 := by have := HV.out; omega
                have e2 : v + 1 - 800 = 0 := by omega
                have e3 : v - 800 = 0 := by omega
                rw [e1, e2, Nat.pow_zero, Nat.mod_one]
                rw [e3, Nat.pow_zero, Nat.mod_one] at hput
                exact Lib.hid hput
            · obtain rfl : W = 800 := by have := HW.out; omega
              have hsk : shA P nd (R - 1 + 1) = shA P nd R := by rw [show R - 1 + 1 = R from by omega]
              have hls := shr_lost (P := P) (nd := nd) (R := R - 1) (p := p) (e := R - r0 - 800) (q := q) (by rw [hsk]; exact HFQ.out)
              rw [hsk] at hls
              have HLS := Lib.hid hls
              have e1 : R + 1 - r0 - 800 = R - r0 - 800 + 1 := by omega
              have E1 := Lib.hid e1
              have ES := Lib.hid esub
              clear hls hsk e1 esub
              by_cases hq0 : q = 0
              · subst hq0
                go_wp2_with fail
                go_roundg (nd + k + 21 - (R + 1))
                case measure => omega
                case rel =>
                  refine ⟨R + 1, 10 * m, 800, rfl, Lib.hid (by omega), by omega, congrArg (Value.int .u64) (by omega), by omega, by omega, by omega, by omega, HN, HB2, HM, _, HR', ?_⟩
                  rw [E1.out, ES.out, show R + 1 - 1 = R from rfl, HLS.out]
                  refine Lib.hid ?_
                  have h := (HS.out.skip (by omega)).later (Nat.le_succ R)
                  rwa [show decide ((0 : Nat) ≠ 0) = false from rfl, Bool.or_false]
              · have hq0' : (0 : Int) < (q : Int) := by omega
                have c4 := HR'.out.cell HS.out.ctr
                go_wp2_with fail
                go_roundg (nd + k + 21 - (R + 1))
                case measure => omega
                case rel =>
                  refine ⟨R + 1, 10 * m, 800, rfl, Lib.hid (by omega), by omega, congrArg (Value.int .u64) (by omega), by omega, by omega, by omega, by omega, HN, HB2, Lib.hid (set1_mod HM.out _ _), _, Lib.hid (HR'.out.set 803 _), ?_⟩
                  rw [E1.out, ES.out, show R + 1 - 1 = R from rfl, HLS.out]
                  refine Lib.hid ?_
                  have h := (HS.out.lose (by omega) hn8).later (Nat.le_succ R)
                  rwa [show decide (q ≠ 0) = true from decide_eq_true (by omega), Bool.or_true, Bool.or_true]
end Go.Proofs.YtadpeebcombjnaaGreatDoor
namespace Go.Proofs.YtadpeebcombjnaaGreatDoor
open Go Go.Proofs Go.RowKit Go.Lib
set_option maxRecDepth 100000
/-- A decimal: its digits as a number, how many, the point, whether digits were lost. -/
structure DSt where
  P : Nat
  nd : Nat
  dp : Int
  tr : Bool
/-- A decimal that is not nought: the first digit is not. -/
structure DSt.ok (s : DSt) : Prop where
  pos : 1 ≤ s.nd
  le : s.nd ≤ 800
  lt : s.P < 10 ^ s.nd
  low : 10 ^ (s.nd - 1) ≤ s.P
/-- The first digit. -/
def DSt.lead (s : DSt) : Nat := s.P / 10 ^ (s.nd - 1)
theorem DSt.ok.lead1 {s : DSt} (h : s.ok) : 1 ≤ s.lead := by
  unfold DSt.lead
  rw [le_div_iff', Nat.one_mul]
  exact h.low
theorem DSt.ok.lead9 {s : DSt} (h : s.ok) : s.lead ≤ 9 := by
  unfold DSt.lead
  have : s.P / 10 ^ (s.nd - 1) < 10 := by
    rw [Nat.div_lt_iff_lt_mul (ten_pos _), Nat.mul_comm, ← Nat.pow_succ, show (s.nd - 1).succ = s.nd from by have := h.pos; omega]
    exact h.lt
  omega
def Dw (w : World) (g : Nat) (s : DSt) (neg : Bool) : Prop := Dc w g s.P s.nd s.dp neg s.tr
def SPost (g : Nat) (s : DSt) (neg : Bool) (w : World) (e : Ending) (w' : World) : Prop := e = .returned (.tuple #[]) ∧ Mod (· = g) w w' ∧ Dw w' g s neg
/-- The first 800 of n2 digits, without noughts at the end. -/
def DSt.cut (Q n2 : Nat) (dp : Int) (tr : Bool) : DSt :=
  ⟨(trimN (Q / 10 ^ (n2 - 800)) (min n2 800)).1, (trimN (Q / 10 ^ (n2 - 800)) (min n2 800)).2, trimDp (Q / 10 ^ (n2 - 800)) (min n2 800) dp, tr || decide (Q % 10 ^ (n2 - 800) ≠ 0)⟩
theorem trimN_spec : ∀ (n R : Nat), R ≠ 0 → R < 10 ^ n → 1 ≤ (trimN R n).2 ∧ (trimN R n).2 ≤ n ∧ R = (trimN R n).1 * 10 ^ (n - (trimN R n).2) := by
  intro n
  induction n with
  | zero => intro R h0 h1; exact absurd (by simpa using h1) h0
  | succ n ih =>
    intro R h0 h1
    rw [trimN]
    split
    · rename_i hz
      have hR : R / 10 ≠ 0 := by omega
      rw [Nat.pow_succ] at h1
      obtain ⟨a, b, c⟩ := ih (R / 10) hR (by omega)
      refine ⟨a, by omega, ?_⟩
      rw [show n + 1 - (trimN (R / 10) n).2 = n - (trimN (R / 10) n).2 + 1 from by omega, Nat.pow_succ, ← Nat.mul_assoc, ← c]
      omega
    · exact ⟨by omega, Nat.le_refl _, by simp⟩
theorem cut_ok {Q n2 : Nat} {dp : Int} {tr : Bool} (h1 : 1 ≤ n2) (hl : 10 ^ (n2 - 1) ≤ Q) (hu : Q < 10 ^ n2) : (DSt.cut Q n2 dp tr).ok ∧ (DSt.cut Q n2 dp tr).dp = dp ∧ (DSt.cut Q n2 dp tr).lead = Q / 10 ^ (n2 - 1) := by
  obtain ⟨R, hR⟩ : ∃ R, Q / 10 ^ (n2 - 800) = R := ⟨_, rfl⟩
  obtain ⟨N, hN⟩ : ∃ N, min n2 800 = N := ⟨_, rfl⟩
  have hRu : R < 10 ^ N := by
    rw [← hR, Nat.div_lt_iff_lt_mul (ten_pos _), ← Nat.pow_add, show N + (n2 - 800) = n2 from by omega]; exact hu
  have hRl : 10 ^ (N - 1) ≤ R := by
    rw [← hR, le_div_iff', ← Nat.pow_add, show N - 1 + (n2 - 800) = n2 - 1 from by omega]; exact hl
  have hR0 : R ≠ 0 := by have := ten_pos (N - 1); omega
  obtain ⟨a, b, c⟩ := trimN_spec N R hR0 hRu
  unfold DSt.cut
  rw [hR, hN]
  unfold trimDp
  generalize (trimN R N).1 = P at *
  generalize hn : (trimN R N).2 = n at *
  have e1 : P = R / 10 ^ (N - n) := by rw [c, Nat.mul_div_cancel _ (ten_pos _)]
  refine ⟨⟨a, by show n ≤ 800; omega, ?_, ?_⟩, if_neg (by omega), ?_⟩
  · show P < 10 ^ n
    rw [e1, Nat.div_lt_iff_lt_mul (ten_pos _), ← Nat.pow_add, show n + (N - n) = N from by omega]; exact hRu
  · show 10 ^ (n - 1) ≤ P
    rw [e1, le_div_iff', ← Nat.pow_add, show n - 1 + (N - n) = N - 1 from by omega]; exact hRl
  · show P / 10 ^ (n - 1) = _
    rw [e1, Nat.div_div_eq_div_mul, ← Nat.pow_add, show N - n + (n - 1) = N - 1 from by omega, ← hR, Nat.div_div_eq_div_mul, ← Nat.pow_add, show n2 - 800 + (N - 1) = n2 - 1 from by omega]
def dsL (k : Nat) (s : DSt) : DSt := DSt.cut (s.P * 2 ^ k) (s.nd + shlD k s.P s.nd) (s.dp + (shlD k s.P s.nd : Nat)) s.tr
noncomputable def dsR (k : Nat) (s : DSt) : DSt := DSt.cut (shB k s.P s.nd) (shW k s.P s.nd) (s.dp - (shR k s.P s.nd : Nat) + 1) s.tr
theorem dsL_ok {k : Nat} {s : DSt} (h : s.ok) (h1 : 1 ≤ k) (hk : k ≤ 60) : (dsL k s).ok ∧ ∃ δ : Nat, (dsL k s).dp = s.dp + δ ∧ δ ≤ chD k ∧ (4 ≤ k → 1 ≤ δ) ∧ (δ = 0 → s.lead < (dsL k s).lead) := by
  have H := cheat_ok k h1 hk
  obtain ⟨b1, b2⟩ := shl_bounds H h.lt h.low h.pos
  have hp := h.pos
  obtain ⟨c1, c2, c3⟩ := cut_ok (dp := s.dp + (shlD k s.P s.nd : Nat)) (tr := s.tr) (by omega) b2 b1
  refine ⟨c1, shlD k s.P s.nd, c2, ?_, fun h4 => ?_, fun h0 => ?_⟩
  · unfold shlD; split <;> omega
  · rcases Nat.eq_zero_or_pos (shlD k s.P s.nd) with h0 | h0
    · rw [h0, Nat.add_zero] at b1
      have h16 : 2 ^ 4 ≤ 2 ^ k := Nat.pow_le_pow_right (by decide) h4
      have : 10 ^ (s.nd - 1) * 2 ^ 4 ≤ s.P * 2 ^ k := Nat.mul_le_mul h.low h16
      have e : 10 ^ s.nd = 10 ^ (s.nd - 1) * 10 := by rw [← Nat.pow_succ, show (s.nd - 1).succ = s.nd from by omega]
      have := ten_pos (s.nd - 1)
      omega
    · exact h0
  · have e3 : (dsL k s).lead = s.P * 2 ^ k / 10 ^ (s.nd - 1) := by
      show (DSt.cut _ _ _ _).lead = _
      rw [c3, h0, Nat.add_zero]
    rw [e3]
    have h2 : 2 ^ 1 ≤ 2 ^ k := Nat.pow_le_pow_right (by decide) h1
    have hl := h.lead1
    have : s.lead * 2 ≤ s.P * 2 ^ k / 10 ^ (s.nd - 1) := by
      rw [le_div_iff', Nat.mul_right_comm]
      exact Nat.mul_le_mul (Nat.div_mul_le_self _ _) h2
    omega
theorem shR_spec {k P nd : Nat} (h1 : 1 ≤ nd) (hl : 10 ^ (nd - 1) ≤ P) (hu : P < 10 ^ nd) (hk : k ≤ 60) : 1 ≤ shR k P nd ∧ shR k P nd ≤ 20 ∧ 2 ^ k ≤ shA P nd (shR k P nd) ∧ ∀ m, m < shR k P nd → shA P nd m < 2 ^ k := by
  have hp60 : 2 ^ k ≤ 2 ^ 60 := Nat.pow_le_pow_right (by decide) hk
  have h20 : 2 ^ k ≤ shA P nd 20 := by
    have : 10 ^ 19 ≤ shA P nd 20 := shA_low h1 hl 19
    omega
  have hx := leastOf_spec (p := fun r => 2 ^ k ≤ shA P nd r) ⟨20, h20⟩
  have hm : ∀ m, m < shR k P nd → shA P nd m < 2 ^ k := fun m hm => by
    rcases Nat.lt_or_ge (shA P nd m) (2 ^ k) with h | h
    · exact h
    · exact absurd (hx.2 m h) (Nat.not_le.2 hm)
  refine ⟨?_, hx.2 20 h20, hx.1, hm⟩
  rcases Nat.eq_zero_or_pos (shR k P nd) with h | h
  · have h2 : 2 ^ k ≤ shA P nd (shR k P nd) := hx.1
    rw [h, shA_zero hu] at h2
    have := Nat.two_pow_pos k
    omega
  · exact h
theorem shE_spec {k P nd : Nat} (h1 : 1 ≤ nd) (hl : 10 ^ (nd - 1) ≤ P) (hu : P < 10 ^ nd) (hk : k ≤ 60) : shR k P nd < shE k P nd ∧ nd ≤ shE k P nd := by
  obtain ⟨a, b, c, d⟩ := shR_spec h1 hl hu hk
  have hx := (leastOf_spec (p := fun r => shR k P nd ≤ r ∧ nd ≤ r ∧ shA P nd r % (10 * 2 ^ k) = 0) ⟨nd + (k + 1) + 20, by omega, by omega, by
    rw [shA_ge (by omega), show nd + (k + 1) + 20 - nd = 20 + (k + 1) from by omega, Nat.pow_add, show (10 : Nat) ^ (k + 1) = 5 ^ k * 2 ^ k * 10 from by rw [Nat.pow_succ, ten_k],
      show P * (10 ^ 20 * (5 ^ k * 2 ^ k * 10)) = (10 * 2 ^ k) * (P * 10 ^ 20 * 5 ^ k) from by ac_rfl, Nat.mul_mod_right]⟩).1
  refine ⟨?_, hx.2.1⟩
  rcases Nat.lt_or_ge (shR k P nd) (shE k P nd) with h | h
  · exact h
  · have he : shE k P nd = shR k P nd := Nat.le_antisymm h hx.1
    have h3 : shA P nd (shE k P nd) % (10 * 2 ^ k) = 0 := hx.2.2
    rw [he] at h3
    have h4 := d (shR k P nd - 1) (by omega)
    have h5 := shA_up h4 1
    rw [show shR k P nd - 1 + 1 = shR k P nd from by omega] at h5
    rw [Nat.mod_eq_of_lt (by omega)] at h3
    have := Nat.two_pow_pos k
    omega
theorem dsR_ok {k : Nat} {s : DSt} (h : s.ok) (hk : k ≤ 60) : (dsR k s).ok ∧ ∃ r : Nat, (dsR k s).dp = s.dp - r + 1 ∧ 1 ≤ r ∧ r ≤ 20 ∧ (s.lead < 2 ^ k → 2 ≤ r) ∧ (2 ^ k ≤ s.lead → r = 1 ∧ (dsR k s).lead = s.lead / 2 ^ k) := by
  obtain ⟨a, b, c, d⟩ := shR_spec (k := k) h.pos h.low h.lt hk
  obtain ⟨e1, e2⟩ := shE_spec (k := k) h.pos h.low h.lt hk
  have hp1 := Nat.two_pow_pos k
  have hW : shW k s.P s.nd = shE k s.P s.nd - shR k s.P s.nd := rfl
  have hB : shB k s.P s.nd = shA s.P s.nd (shE k s.P s.nd - 1) / 2 ^ k := rfl
  have hu : shB k s.P s.nd < 10 ^ shW k s.P s.nd := by
    rw [hB, hW, Nat.div_lt_iff_lt_mul hp1, Nat.mul_comm]
    have h := shA_up (d (shR k s.P s.nd - 1) (by omega)) (shE k s.P s.nd - shR k s.P s.nd)
    rwa [show shR k s.P s.nd - 1 + (shE k s.P s.nd - shR k s.P s.nd) = shE k s.P s.nd - 1 from by omega] at h
  have hl : 10 ^ (shW k s.P s.nd - 1) ≤ shB k s.P s.nd := by
    rw [hB, hW, Nat.le_div_iff_mul_le hp1]
    have h := shA_mono s.P s.nd (shR k s.P s.nd) (shE k s.P s.nd - shR k s.P s.nd - 1)
    rw [show shR k s.P s.nd + (shE k s.P s.nd - shR k s.P s.nd - 1) = shE k s.P s.nd - 1 from by omega] at h
    refine Nat.le_trans ?_ h
    rw [Nat.mul_comm]
    exact Nat.mul_le_mul_right _ c
  obtain ⟨c1, c2, c3⟩ := cut_ok (dp := s.dp - (shR k s.P s.nd : Nat) + 1) (tr := s.tr) (by omega) hl hu
  have h1 : shA s.P s.nd 1 = s.lead := shA_le h.pos
  refine ⟨c1, shR k s.P s.nd, c2, a, b, fun hlt => ?_, fun hge => ?_⟩
  · rcases Nat.lt_or_ge 1 (shR k s.P s.nd) with h | h
    · exact h
    · rw [show shR k s.P s.nd = 1 from by omega, h1] at c
      omega
  · have hr1 : shR k s.P s.nd = 1 := by
      rcases Nat.lt_or_ge 1 (shR k s.P s.nd) with h | h
      · have := d 1 h
        rw [h1] at this
        omega
      · omega
    refine ⟨hr1, ?_⟩
    have hten : ∀ e R, shA s.P s.nd (R + e) / 10 ^ e = shA s.P s.nd R := by
      intro e
      induction e with
      | zero => intro R; simp
      | succ e ih =>
        intro R
        rw [show R + (e + 1) = (R + 1) + e from by omega, Nat.pow_succ, ← Nat.div_div_eq_div_mul, ih, shA_ten]
    show (DSt.cut _ _ _ _).lead = _
    rw [c3, hB, hW, hr1, Nat.div_div_eq_div_mul, Nat.mul_comm, ← Nat.div_div_eq_div_mul]
    have := hten (shE k s.P s.nd - 1 - 1) 1
    rw [show 1 + (shE k s.P s.nd - 1 - 1) = shE k s.P s.nd - 1 from by omega] at this
    rw [this, h1]
theorem shlS {lo g k : Nat} {s : DSt} {neg : Bool} {w : World} (hT : Tabs lo w) (hg : lo ≤ g) (hd : Dw w g s neg) (ho : s.ok) (hk1 : 1 ≤ k) (hk : k ≤ 60) (hdp : -100000 ≤ s.dp ∧ s.dp ≤ 100000) :
    Calls Tryz.prog 142 #[.pointer (some ⟨g, 0, none⟩), .int .u64 (k : Nat)] w (SPost g (dsL k s) neg w) :=
  (shl_any lo g k s.P s.nd s.dp neg s.tr w hT hg hd ho.pos ho.low hk1 hk hdp).mono fun _ _ h => h
theorem shrS {g k : Nat} {s : DSt} {neg : Bool} {w : World} (hd : Dw w g s neg) (ho : s.ok) (hk1 : 1 ≤ k) (hk : k ≤ 60) (hdp : -100000 ≤ s.dp ∧ s.dp ≤ 100000) :
    Calls Tryz.prog 143 #[.pointer (some ⟨g, 0, none⟩), .int .u64 (k : Nat)] w (SPost g (dsR k s) neg w) :=
  (shr_any g k s.P s.nd s.dp neg s.tr w hd ho.pos ho.low hk1 hk hdp).mono fun _ _ h => h
/-- A shift to the right by n, in steps of 60. -/
noncomputable def dsRs (n : Nat) (s : DSt) : DSt := if n ≤ 60 then dsR n s else dsRs (n - 60) (dsR 60 s)
  termination_by n
theorem dsRs_one {n : Nat} {s : DSt} (h : n ≤ 60) : dsRs n s = dsR n s := by rw [dsRs, if_pos h]
theorem dsRs_more {n : Nat} {s : DSt} (h : ¬ n ≤ 60) : dsRs n s = dsRs (n - 60) (dsR 60 s) := by rw [dsRs, if_neg h]
theorem dsRs_ok : ∀ (n : Nat) (s : DSt), s.ok → (dsRs n s).ok ∧ s.dp - 20 - n ≤ (dsRs n s).dp ∧ (dsRs n s).dp ≤ s.dp := by
  intro n
  induction n using Nat.strongRecOn with
  | _ n ih =>
    intro s h
    by_cases hn : n ≤ 60
    · rw [dsRs_one hn]
      obtain ⟨a, r, b, c, d, _⟩ := dsR_ok h hn
      exact ⟨a, by omega, by omega⟩
    · rw [dsRs_more hn]
      obtain ⟨a, r, b, c, d, _⟩ := dsR_ok h (Nat.le_refl 60)
      obtain ⟨e, f, i⟩ := ih (n - 60) (by omega) _ a
      exact ⟨e, by omega, by omega⟩
set_option maxHeartbeats 4000000 in
theorem shiftL_any {lo g k : Nat} {s : DSt} {neg : Bool} {w : World} (hT : Tabs lo w) (hg : lo ≤ g) (hd : Dw w g s neg) (ho : s.ok) (hk1 : 1 ≤ k) (hk : k ≤ 60) (hdp : -100000 ≤ s.dp ∧ s.dp ≤ 100000) :
    Calls Tryz.prog 137 #[.pointer (some ⟨g, 0, none⟩), .int .i64 (k : Nat)] w (SPost g (dsL k s) neg w) := by
  have hs := shlS hT hg hd ho hk1 hk hdp
  obtain ⟨C, hrow, hc⟩ := hd
  have c0 : w.cell? ⟨g, 800, none⟩ = some (.int .i64 (s.nd : Nat)) := hrow.cell hc.cnd
  have hn := ho.pos
  have h0 : ((s.nd : Int) == 0) = false := by rw [beq_eq_false_iff_ne]; omega
  clear hT hc hrow ho hdp
  go_enter Tryz.func137, Tryz.ntmps137
  go_wp2_with fail
  go_loopg [1] 1 (fun gh vk wr => w = wr ∧ vk = .int .i64 (k : Nat))
  case atStart => exact ⟨rfl, rfl⟩
  case round =>
    obtain ⟨rfl, rfl⟩ := hrel
    have hk2 : ¬ (60 : Int) < (k : Int) := by omega
    go_wp2_with fail
    refine hs.mono ?_
    rintro _ w2 ⟨rfl, hm, hd⟩
    go_wp2_with fail
    go_end0
    exact ⟨rfl, hm, hd⟩
set_option maxHeartbeats 4000000 in
theorem shiftR_any {g n : Nat} {s : DSt} {neg : Bool} {w : World} (hd : Dw w g s neg) (ho : s.ok) (hn1 : 1 ≤ n) (hn : n ≤ 98000) (hdp : -1000 ≤ s.dp ∧ s.dp ≤ 1000) :
    Calls Tryz.prog 137 #[.pointer (some ⟨g, 0, none⟩), .int .i64 (-(n : Int))] w (SPost g (dsRs n s) neg w) := by
  have HD := Lib.hid hd
  obtain ⟨C, hrow, hc⟩ := hd
  have c0 : w.cell? ⟨g, 800, none⟩ = some (.int .i64 (s.nd : Nat)) := hrow.cell hc.cnd
  have hp := ho.pos
  have h0 : ((s.nd : Int) == 0) = false := by rw [beq_eq_false_iff_ne]; omega
  have hneg : ¬ (0 : Int) < -(n : Int) := by omega
  have hneg2 : -(n : Int) < 0 := by omega
  have HO := Lib.hid ho
  clear hc hrow ho
  go_enter Tryz.func137, Tryz.ntmps137
  go_wp2_with fail
  go_loopg [1] n (fun gh vk wr => ∃ (m : Nat) (t : DSt), vk = .int .i64 (-(m : Int)) ∧ gh = m ∧ 1 ≤ m ∧ m ≤ n ∧ -1000 - ((n : Int) - m) ≤ t.dp ∧ t.dp ≤ 1000 ∧ Hid (t.ok) ∧ Hid (Mod (· = g) w wr) ∧ Hid (Dw wr g t neg) ∧ Hid (dsRs n s = dsRs m t))
  case atStart => exact ⟨n, s, rfl, rfl, hn1, Nat.le_refl _, by omega, by omega, HO, Lib.hid (Mod.refl _ _), HD, Lib.hid rfl⟩
  case round =>
    obtain ⟨m, t, rfl, rfl, hm1, hmn, hd1, hd2, HT, HM, HDW, HE⟩ := hrel
    by_cases h60 : gk ≤ 60
    · have hs := shrS HDW.out HT.out hm1 h60 (by omega)
      have h60' : ¬ -(gk : Int) < -60 := by omega
      have hcv : IntKind.u64.wrap (- -(gk : Int)) = (gk : Int) := by rw [Int.neg_neg]; exact IntWalk.u64_in _ (by omega)
      clear h0 hneg hneg2 c0
      go_wp2_with fail
      refine hs.mono ?_
      rintro _ w2 ⟨rfl, hm, hd⟩
      go_wp2_with fail
      go_end0
      rw [HE.out, dsRs_one h60]
      exact ⟨rfl, HM.out.trans hm (fun _ _ h => h), hd⟩
    · have hs := shrS (k := 60) HDW.out HT.out (by decide) (Nat.le_refl 60) (by omega)
      have h60' : -(gk : Int) < -60 := by omega
      clear h0 hneg hneg2 c0
      go_wp2_with fail
      refine hs.mono ?_
      rintro _ w2 ⟨rfl, hm, hd⟩
      have HMM := Lib.hid (HM.out.trans hm (fun _ _ h => h))
      have HDD := Lib.hid hd
      obtain ⟨a, r, b, c, d, _⟩ := dsR_ok HT.out (Nat.le_refl 60)
      have HA := Lib.hid a
      clear hm hd hs a
      go_wp2_with fail
      go_roundg (gk - 60)
      case measure => omega
      case rel => exact ⟨gk - 60, dsR 60 t, congrArg (Value.int .i64) (by omega), rfl, by omega, by omega, by omega, by omega, HA, HMM, HDD, Lib.hid (by rw [HE.out, dsRs_more h60])⟩
end Go.Proofs.YtadpeebcombjnaaGreatDoor
namespace Go.Proofs.YtadpeebcombjnaaGreatDoor
open Go Go.Proofs Go.RowKit Go.Lib
set_option maxRecDepth 100000
/-- Whether what stands behind place z rounds up. -/
def sru (P nd : Nat) (tr : Bool) (z : Int) : Bool :=
  if z < 0 ∨ (nd : Int) ≤ z then false
  else if dgt P (nd - 1 - z.toNat) = 5 ∧ z.toNat + 1 = nd then (if tr = true then true else if z.toNat = 0 then false else decide (dgt P (nd - 1 - (z.toNat - 1)) % 2 ≠ 0))
  else decide (5 ≤ dgt P (nd - 1 - z.toNat))
set_option maxHeartbeats 4000000 in
theorem sru_any' {g P nd : Nat} {dp : Int} {neg tr : Bool} {w : World} (z : Int) (hz : -200000 ≤ z ∧ z ≤ 200000) (hd : Dc w g P nd dp neg tr) (r : Bool) (hr : sru P nd tr z = r) : Calls Tryz.prog 144 #[.pointer (some ⟨g, 0, none⟩), .int .i64 z] w fun e w' => e = .returned (.bool r) ∧ w' = w := by
  obtain ⟨C, hrow, hc⟩ := hd
  have c0 : w.cell? ⟨g, 800, none⟩ = some (.int .i64 (nd : Nat)) := hrow.cell hc.cnd
  have ct : w.cell? ⟨g, 803, none⟩ = some (.bool tr) := hrow.cell hc.ctr
  have hn := hc.le
  by_cases h1 : z < 0
  · have HS : Hid (r = false) := Lib.hid (hr.symm.trans (if_pos (.inl h1)))
    have h1b : decide (z < 0) = true := decide_eq_true h1
    clear hc hrow hr
    go_enter Tryz.func144, Tryz.ntmps144
    go_wp2_with fail
    go_ret
    exact ⟨by rw [HS.out]; rfl, rfl⟩
  by_cases h2 : (nd : Int) ≤ z
  · have HS : Hid (r = false) := Lib.hid (hr.symm.trans (if_pos (.inr h2)))
    have h1b : decide (z < 0) = false := decide_eq_false h1
    clear hc hrow hr
    go_enter Tryz.func144, Tryz.ntmps144
    go_wp2_with fail
    go_ret
    exact ⟨by rw [HS.out]; rfl, rfl⟩
  obtain ⟨j, rfl⟩ : ∃ j : Nat, z = (j : Int) := ⟨z.toNat, by omega⟩
  have hj : j < nd := by omega
  have c1 := hrow.cell (hc.dig j hj)
  have hd9 := dgt_lt P (nd - 1 - j)
  have hj8 : (j : Int) < 800 := by omega
  have hj0 : (0 : Int) ≤ (j : Int) := by omega
  have h1b : decide ((j : Int) < 0) = false := decide_eq_false h1
  have h2b : decide ((nd : Int) ≤ (j : Int)) = false := decide_eq_false h2
  have hs : r = if dgt P (nd - 1 - j) = 5 ∧ j + 1 = nd then (if tr = true then true else if j = 0 then false else decide (dgt P (nd - 1 - (j - 1)) % 2 ≠ 0)) else decide (5 ≤ dgt P (nd - 1 - j)) := by
    rw [← hr]
    unfold sru
    rw [if_neg (by omega), Int.toNat_natCast]
  obtain ⟨a, ha⟩ : ∃ a, dgt P (nd - 1 - j) = a := ⟨_, rfl⟩
  rw [ha] at c1 hd9 hs
  have HS := Lib.hid hs
  obtain ⟨x, hx⟩ : ∃ x, 48 + a = x := ⟨_, rfl⟩
  rw [hx] at c1
  by_cases h5 : a = 5
  · obtain rfl : x = 53 := by omega
    have c1 : w.cell? ⟨g, j, none⟩ = some (.int .u8 53) := c1
    by_cases hl : j + 1 = nd
    · have hlb : ((j : Int) + 1 == (nd : Int)) = true := by rw [beq_iff_eq]; omega
      have HS2 := Lib.hid (HS.out.trans (if_pos ⟨h5, hl⟩))
      cases tr with
      | true =>
        clear hc hrow hs ha h5 hl hr hx hd9
        go_enter Tryz.func144, Tryz.ntmps144
        go_wp2_with fail
        go_ret
        exact ⟨by rw [HS2.out]; rfl, rfl⟩
      | false =>
        cases j with
        | zero =>
          have h0b : decide ((0 : Int) < 0) = false := rfl
          clear hc hrow hs ha h5 hl hr hx hd9
          go_enter Tryz.func144, Tryz.ntmps144
          go_wp2_with fail
          go_ret
          exact ⟨by rw [HS2.out]; rfl, rfl⟩
        | succ i =>
          have c2 := hrow.cell (hc.dig i (by omega))
          have hb9 := dgt_lt P (nd - 1 - i)
          have HS3 : Hid (r = decide (dgt P (nd - 1 - i) % 2 ≠ 0)) := Lib.hid (by rw [HS2.out]; simp)
          obtain ⟨b, hb⟩ : ∃ b, dgt P (nd - 1 - i) = b := ⟨_, rfl⟩
          rw [hb] at c2 hb9 HS3
          have h0b : decide ((0 : Int) < (i : Int) + 1) = true := decide_eq_true (by omega)
          have hi8 : (i : Int) < 800 := by omega
          clear hc hrow hs ha h5 hl hb hr hx hd9
          go_enter Tryz.func144, Tryz.ntmps144
          go_wp2_with fail
          go_ret
          have e : ((48 + (b : Int) - 48) % 2 != 0) = decide (b % 2 ≠ 0) := by rw [Bool.eq_iff_iff, bne_iff_ne, decide_eq_true_eq]; omega
          exact ⟨congrArg (fun q => Ending.returned (.bool q)) (e.trans HS3.out.symm), rfl⟩
    · have hlb : ((j : Int) + 1 == (nd : Int)) = false := by rw [beq_eq_false_iff_ne]; omega
      have HS2 : Hid (r = true) := Lib.hid (by rw [HS.out, if_neg (fun h => hl h.2)]; exact decide_eq_true (by omega))
      clear hc hrow hs ha h5 hl hr hx hd9
      go_enter Tryz.func144, Tryz.ntmps144
      go_wp2_with fail
      go_ret
      exact ⟨by rw [HS2.out]; rfl, rfl⟩
  · have hxb : ((x : Int) == 53) = false := by rw [beq_eq_false_iff_ne]; omega
    have HS2 : Hid (r = decide ((53 : Int) ≤ (x : Int))) := Lib.hid (by rw [HS.out, if_neg (fun h => h5 h.1), decide_eq_decide]; omega)
    clear hc hrow hs ha h5 hr hx hd9
    go_enter Tryz.func144, Tryz.ntmps144
    go_wp2_with fail
    go_ret
    exact ⟨congrArg (fun q => Ending.returned (.bool q)) HS2.out.symm, rfl⟩
/-- The integer part, rounded. -/
def rndI (s : DSt) : Nat := shA s.P s.nd s.dp.toNat + (sru s.P s.nd s.tr s.dp).toNat
theorem shA_lt {P nd : Nat} (h : P < 10 ^ nd) (r : Nat) : shA P nd r < 10 ^ r := by
  have h1 : shA P nd 0 < 1 := by rw [shA_zero h]; decide
  have := shA_up h1 r
  rwa [Nat.zero_add, Nat.one_mul] at this
set_option maxHeartbeats 4000000 in
theorem rnd_any {g : Nat} {s : DSt} {neg : Bool} {w : World} (hd : Dw w g s neg) (ho : s.ok) (hdp : -150000 ≤ s.dp ∧ s.dp ≤ 18) : Calls Tryz.prog 138 #[.pointer (some ⟨g, 0, none⟩)] w fun e w' => e = .returned (.int .u64 (rndI s : Nat)) ∧ w' = w := by
  obtain ⟨sr, hsr⟩ : ∃ sr, sru s.P s.nd s.tr s.dp = sr := ⟨_, rfl⟩
  have hround := sru_any' s.dp ⟨by omega, by omega⟩ hd sr hsr
  obtain ⟨C, hrow, hc⟩ := hd
  have c0 : w.cell? ⟨g, 800, none⟩ = some (.int .i64 (s.nd : Nat)) := hrow.cell hc.cnd
  have c1 : w.cell? ⟨g, 801, none⟩ = some (.int .i64 s.dp) := hrow.cell hc.cdp
  have hle := hc.le
  obtain ⟨res, hres⟩ : ∃ r, rndI s = r := ⟨_, rfl⟩
  rw [hres]
  have hres2 : res = shA s.P s.nd s.dp.toNat + sr.toNat := by rw [← hres, rndI, hsr]
  have HRES := Lib.hid hres2
  have HC := Lib.hid hc
  have HR := Lib.hid hrow
  obtain ⟨P, nd, z, tr⟩ := s
  obtain ⟨D, hD⟩ : ∃ D, z.toNat = D := ⟨_, rfl⟩
  dsimp only at *
  rw [hD] at HRES
  have hDb : D ≤ 18 := by omega
  have hp18 : 10 ^ D ≤ 10 ^ 18 := Nat.pow_le_pow_right (by decide) hDb
  have HLT := Lib.hid (shA_lt HC.out.lt)
  have hz0 : ∀ i : Nat, ((i : Int) < z ↔ i < D) := fun i => by omega
  have HZ0 := Lib.hid hz0
  have hz20 : ¬ (20 : Int) < z := by omega
  have HDD := Lib.hid hD
  clear hres hres2 hc hrow hD hz0 ho hsr hdp
  go_enter Tryz.func138, Tryz.ntmps138
  go_upto_block 0 with (fail)
  go_cut [3, 4] from 10 to 36 (fun vi vn wx => w = wx ∧ ∃ i n : Nat, vi = .int .i64 (i : Nat) ∧ i ≤ D ∧ vn = .int .u64 (n : Nat) ∧ n < 10 ^ 18 ∧ Hid (i = D ∨ nd ≤ i) ∧ Hid (shA P nd i = n))
  case first =>
    go_wp2_with fail
    go_loopg [3, 4] D (fun gh vi vn wr => wr = w ∧ ∃ i n : Nat, vi = .int .i64 (i : Nat) ∧ i + gh = D ∧ i ≤ nd ∧ vn = .int .u64 (n : Nat) ∧ n < 10 ^ 18 ∧ Hid (shA P nd i = n))
    case atStart => exact ⟨rfl, 0, 0, rfl, by omega, by omega, rfl, by decide, Lib.hid (shA_zero HC.out.lt)⟩
    case round =>
      obtain ⟨rfl, i, n, rfl, hi, hin, rfl, hn, HA⟩ := hrel
      by_cases h1 : i < D
      · have h1b : decide ((i : Int) < z) = true := decide_eq_true ((HZ0.out i).2 h1)
        by_cases h2 : i < nd
        · have h2b : decide (i < nd) = true := decide_eq_true h2
          have c2 := HR.out.cell (HC.out.dig i h2)
          have hd9 := dgt_lt P (nd - 1 - i)
          have hsu := shA_succ P nd i
          have hlt := HLT.out (i + 1)
          have hpi : 10 ^ (i + 1) ≤ 10 ^ D := Nat.pow_le_pow_right (by decide) h1
          rw [shC, if_pos h2, HA.out] at hsu
          rw [hsu] at hlt
          obtain ⟨a, ha⟩ : ∃ a, dgt P (nd - 1 - i) = a := ⟨_, rfl⟩
          rw [ha] at c2 hd9 hsu hlt
          have HSU := Lib.hid hsu
          have hb : 10 * n + a < 10 ^ 18 := by omega
          have hi8 : (i : Int) < 800 := by omega
          clear ha hsu hlt hpi hn
          go_wp2_with fail
          go_roundg (D - (i + 1))
          case measure => omega
          case rel => exact ⟨rfl, i + 1, 10 * n + a, by go_num, by omega, by omega, congrArg (Value.int .u64) (by omega), hb, HSU⟩
        · have h2b : decide (i < nd) = false := decide_eq_false h2
          have HND : Hid (i = D ∨ nd ≤ i) := Lib.hid (.inr (by omega))
          have HI : i ≤ D := by omega
          clear h1 h2 hin hi
          go_wp2_with fail
          go_meet
          exact ⟨rfl, i, n, rfl, HI, rfl, hn, HND, HA⟩
      · have h1b : decide ((i : Int) < z) = false := decide_eq_false (fun h => h1 ((HZ0.out i).1 h))
        have HND : Hid (i = D ∨ nd ≤ i) := Lib.hid (.inl (by omega))
        have HI : i ≤ D := by omega
        clear h1 hin hi
        go_wp2_with fail
        go_meet
        exact ⟨rfl, i, n, rfl, HI, rfl, hn, HND, HA⟩
  case rest =>
    obtain ⟨rfl, i0, n0, rfl, hi0, rfl, hn0, HND, HA0⟩ := hcut
    go_wp2_with fail
    go_loopg [3, 4] (D - i0) (fun gh vi vn wr => wr = w ∧ ∃ i n : Nat, vi = .int .i64 (i : Nat) ∧ i + gh = D ∧ Hid (i = D ∨ nd ≤ i) ∧ vn = .int .u64 (n : Nat) ∧ n < 10 ^ 18 ∧ Hid (shA P nd i = n))
    case atStart => exact ⟨rfl, i0, n0, rfl, by omega, HND, rfl, hn0, HA0⟩
    case round =>
      clear HND HA0 hn0 hi0
      obtain ⟨rfl, i, n, rfl, hi, HND, rfl, hn, HA⟩ := hrel
      by_cases h1 : i < D
      · have h1b : (i : Int) < z := (HZ0.out i).2 h1
        have hsu := shA_succ P nd i
        have hlt := HLT.out (i + 1)
        have hpi : 10 ^ (i + 1) ≤ 10 ^ D := Nat.pow_le_pow_right (by decide) h1
        rw [shC, if_neg (by have := HND.out; omega), HA.out] at hsu
        rw [hsu] at hlt
        have HSU := Lib.hid hsu
        have hb : 10 * n + 0 < 10 ^ 18 := by omega
        have HN2 : Hid (i + 1 = D ∨ nd ≤ i + 1) := Lib.hid (by have := HND.out; omega)
        clear hsu hlt hpi hn
        go_wp2_with fail
        go_roundg (D - (i + 1))
        case measure => omega
        case rel => exact ⟨rfl, i + 1, 10 * n + 0, by go_num, by have := (HZ0.out i).1 h1b; omega, HN2, congrArg (Value.int .u64) (by omega), hb, HSU⟩
      · have h1b : ¬ (i : Int) < z := fun h => h1 ((HZ0.out i).1 h)
        obtain rfl : i = D := by omega
        have hre : res = n + sr.toNat := by rw [HRES.out, HA.out]
        have HRE := Lib.hid hre
        clear h1 hi hre
        cases sr with
        | true =>
          go_wp2_with (go_at_call 144; refine hround.mono ?_; rintro _ wq ⟨rfl, hwq⟩; rw [hwq]; clear hwq)
          go_ret
          refine ⟨?_, rfl⟩
          rw [HRE.out]
          rfl
        | false =>
          go_wp2_with (go_at_call 144; refine hround.mono ?_; rintro _ wq ⟨rfl, hwq⟩; rw [hwq]; clear hwq)
          go_ret
          refine ⟨?_, rfl⟩
          rw [HRE.out]
          rfl
end Go.Proofs.YtadpeebcombjnaaGreatDoor
namespace Go.Proofs.YtadpeebcombjnaaGreatDoor
open Go Go.Proofs Go.RowKit Go.Lib
set_option maxRecDepth 100000
/-- By how much is shifted. -/
def pw (d : Nat) : Nat := if 9 ≤ d then 27 else pwt d
theorem pw_le (d : Nat) : 1 ≤ pw d ∧ pw d ≤ 27 := by
  unfold pw
  split
  · omega
  · have h : ∀ d : Fin 9, 1 ≤ pwt d.val ∧ pwt d.val ≤ 27 := by decide
    exact h ⟨d, by omega⟩
theorem pw_big {d : Nat} (h : 2 ≤ d) : 4 ≤ pw d := by
  unfold pw
  split
  · omega
  · have h2 : ∀ d : Fin 9, 2 ≤ d.val → 4 ≤ pwt d.val := by decide
    exact h2 ⟨d, by omega⟩ h
theorem pw_ch {d : Nat} (h : 1 ≤ d) : chD (pw d) ≤ d := by
  unfold pw
  split
  · have : chD 27 = 9 := by decide +kernel
    omega
  · have h2 : ∀ d : Fin 9, 1 ≤ d.val → chD (pwt d.val) ≤ d.val := by decide +kernel
    exact h2 ⟨d, by omega⟩ h
noncomputable def fl1 : Nat → DSt → Int → DSt × Int
  | 0, s, e => (s, e)
  | f + 1, s, e => if 0 < s.dp then fl1 f (dsRs (pw s.dp.toNat) s) (e + (pw s.dp.toNat : Nat)) else (s, e)
noncomputable def fl2 : Nat → DSt → Int → DSt × Int
  | 0, s, e => (s, e)
  | f + 1, s, e => if s.dp < 0 ∨ s.dp = 0 ∧ s.lead < 5 then fl2 f (dsL (pw (-s.dp).toNat) s) (e - (pw (-s.dp).toNat : Nat)) else (s, e)
def meas1 (s : DSt) : Nat := 2 * s.dp.toNat + if 8 ≤ s.lead then 1 else 0
def meas2 (s : DSt) : Nat := 10 * (-s.dp).toNat + (9 - s.lead)
theorem step1 {s : DSt} (h : s.ok) (hd : 0 < s.dp) : (dsRs (pw s.dp.toNat) s).ok ∧ meas1 (dsRs (pw s.dp.toNat) s) < meas1 s ∧ -19 ≤ (dsRs (pw s.dp.toNat) s).dp ∧ (dsRs (pw s.dp.toNat) s).dp ≤ s.dp := by
  have hp := pw_le s.dp.toNat
  rw [dsRs_one (by omega)]
  obtain ⟨a, r, b, c, d, e, f⟩ := dsR_ok (k := pw s.dp.toNat) h (by omega)
  refine ⟨a, ?_, by omega, by omega⟩
  unfold meas1
  have hl9 := h.lead9
  have hs : (if 8 ≤ (dsR (pw s.dp.toNat) s).lead then 1 else 0) ≤ 1 := by split <;> omega
  rcases Nat.lt_or_ge 1 s.dp.toNat with h2 | h2
  · have h4 := pw_big h2
    have h16 : 2 ^ 4 ≤ 2 ^ pw s.dp.toNat := Nat.pow_le_pow_right (by decide) h4
    have := e (by omega)
    omega
  · have h1 : s.dp.toNat = 1 := by omega
    have h3 : pw s.dp.toNat = 3 := by rw [h1]; rfl
    rw [h3] at b e f hs ⊢
    rcases Nat.lt_or_ge s.lead 8 with h8 | h8
    · have := e (by omega)
      omega
    · obtain ⟨f1, f2⟩ := f (by omega)
      rw [f2, if_pos h8, if_neg (by omega)]
      omega
theorem dsL_flat {k : Nat} {s : DSt} (h : s.ok) (h1 : 1 ≤ k) (hk : k ≤ 60) (hl : (s.lead + 1) * 2 ^ k ≤ 10) : (dsL k s).dp = s.dp := by
  have H := cheat_ok k h1 hk
  obtain ⟨b1, b2⟩ := shl_bounds H h.lt h.low h.pos
  have hp := h.pos
  obtain ⟨c1, c2, c3⟩ := cut_ok (dp := s.dp + (shlD k s.P s.nd : Nat)) (tr := s.tr) (by omega) b2 b1
  have hP : s.P < (s.lead + 1) * 10 ^ (s.nd - 1) := div_lt_iff'.1 (Nat.lt_succ_self _)
  have hQ : s.P * 2 ^ k < 10 ^ s.nd := by
    calc s.P * 2 ^ k < (s.lead + 1) * 10 ^ (s.nd - 1) * 2 ^ k := Nat.mul_lt_mul_of_pos_right hP (Nat.two_pow_pos k)
      _ = (s.lead + 1) * 2 ^ k * 10 ^ (s.nd - 1) := by rw [Nat.mul_right_comm]
      _ ≤ 10 * 10 ^ (s.nd - 1) := Nat.mul_le_mul_right _ hl
      _ = 10 ^ s.nd := by rw [Nat.mul_comm, ← Nat.pow_succ, show (s.nd - 1).succ = s.nd from by omega]
  have h0 : shlD k s.P s.nd = 0 := by
    rcases Nat.eq_zero_or_pos (shlD k s.P s.nd) with h | h
    · exact h
    · have := Nat.pow_le_pow_right (show 0 < 10 by decide) (show s.nd ≤ s.nd + shlD k s.P s.nd - 1 by omega)
      omega
  show (DSt.cut _ _ _ _).dp = _
  rw [c2, h0]
  simp
theorem step2 {s : DSt} (h : s.ok) (_hd : s.dp ≤ 0) (hc : s.dp < 0 ∨ s.dp = 0 ∧ s.lead < 5) : (dsL (pw (-s.dp).toNat) s).ok ∧ meas2 (dsL (pw (-s.dp).toNat) s) < meas2 s ∧ s.dp ≤ (dsL (pw (-s.dp).toNat) s).dp ∧ (dsL (pw (-s.dp).toNat) s).dp ≤ 0 := by
  have hp := pw_le (-s.dp).toNat
  obtain ⟨a, δ, b, c, _, d⟩ := dsL_ok (k := pw (-s.dp).toNat) h (by omega) (by omega)
  have hl9 := h.lead9
  have hl9' := a.lead9
  rcases hc with hc | ⟨hc, hl⟩
  · have h1 := pw_ch (d := (-s.dp).toNat) (by omega)
    refine ⟨a, ?_, by omega, by omega⟩
    unfold meas2
    rcases Nat.eq_zero_or_pos δ with h0 | h0
    · have := d h0
      omega
    · omega
  · have h0 : (-s.dp).toNat = 0 := by omega
    have hf := dsL_flat (k := pw (-s.dp).toNat) h (by omega) (by omega) (by rw [h0]; show (s.lead + 1) * 2 ^ 1 ≤ 10; omega)
    have h00 : δ = 0 := by omega
    have := d h00
    refine ⟨a, ?_, by omega, by omega⟩
    unfold meas2
    omega
/-- The mantissa, the exponent and whether it overflows, of a decimal that is not nought and stands within the bounds. -/
noncomputable def fbM (s : DSt) : Nat × Int × Bool :=
  let p1 := fl1 700 s 0
  let p2 := fl2 3400 p1.1 p1.2
  let q : DSt × Int := if p2.2 - 1 < -1022 then (dsRs (-1022 - (p2.2 - 1)).toNat p2.1, -1022) else (p2.1, p2.2 - 1)
  if 1024 ≤ q.2 then (0, 1024, true) else
  let m := rndI (dsL 53 q.1)
  let r : Nat × Int := if m = 9007199254740992 then (4503599627370496, q.2 + 1) else (m, q.2)
  if 1024 ≤ r.2 then (0, 1024, true) else
  (r.1, (if r.1 / 4503599627370496 % 2 = 0 then -1023 else r.2), false)
noncomputable def fbT (s : DSt) : Nat × Int × Bool := if s.nd = 0 then (0, -1023, false) else if 310 < s.dp then (0, 1024, true) else if s.dp < -330 then (0, -1023, false) else fbM s
/-- The word without its sign. -/
def fbW (t : Nat × Int × Bool) : Nat := t.1 % 4503599627370496 + (t.2.1 + 1023).toNat * 4503599627370496
end Go.Proofs.YtadpeebcombjnaaGreatDoor
