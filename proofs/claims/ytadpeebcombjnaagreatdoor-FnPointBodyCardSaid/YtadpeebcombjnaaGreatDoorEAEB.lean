/- internal/strconv's small functions of unrounded scaling. -/
import Derived.Test.YtadpeebcombjnaaGreatDoorDJ
import Derived.Test.YtadpeebcombjnaaGreatDoorLFLE
import Derived.Test.YtadpeebcombjnaaGreatDoorH
namespace Go.Proofs.YtadpeebcombjnaaGreatDoor
open Go Go.Proofs Go.RowKit Go.Lib
set_option maxRecDepth 100000
theorem bool64_any (b : Bool) (w : World) : Calls Tryz.prog 119 #[.bool b] w fun e w' => e = .returned (.int .u64 (b.toNat : Nat)) ∧ w' = w := by
  cases b with
  | true =>
    go_enter Tryz.func119, Tryz.ntmps119
    go_wp2
    go_ret
    exact ⟨rfl, rfl⟩
  | false =>
    go_enter Tryz.func119, Tryz.ntmps119
    go_wp2
    go_ret
    exact ⟨rfl, rfl⟩
/-- ⌊log₂ 10^p⌋. -/
def lg (p : Int) : Int := p * 108853 / 32768
theorem lg_any (p : Int) (hp : -100000 ≤ p ∧ p ≤ 100000) (w : World) : Calls Tryz.prog 130 #[.int .i64 p] w fun e w' => e = .returned (.int .i64 (lg p)) ∧ w' = w := by
  go_enter Tryz.func130, Tryz.ntmps130
  go_wp2
  go_ret
  exact ⟨rfl, rfl⟩
theorem unmin_any (w : World) : Calls Tryz.prog 134 #[.int .u64 9007199254740992] w fun e w' => e = .returned (.int .u64 36028797018963966) ∧ w' = w := by
  go_enter Tryz.func134, Tryz.ntmps134
  go_wp2
  go_ret
  exact ⟨rfl, rfl⟩
def rnd (u : Nat) : Nat := (u + 1 + u / 4 % 2) / 4
theorem rndu_any (u : Nat) (hu : u < 2 ^ 60) (w : World) : Calls Tryz.prog 136 #[.int .u64 (u : Nat)] w fun e w' => e = .returned (.int .u64 (rnd u : Nat)) ∧ w' = w := by
  obtain ⟨q, hq⟩ : ∃ q, u / 4 = q := ⟨_, rfl⟩
  obtain ⟨r, hr⟩ : ∃ r, q % 2 = r := ⟨_, rfl⟩
  have h1 : bits BinOp.and IntKind.u64 (q : Int) 1 = (r : Int) := by
    have h := u64_and_nat q 1 (by omega) (by decide)
    have e : ((1 : Nat) : Int) = 1 := rfl
    rw [e] at h
    rw [h, nat_mask1, hr]
  have e4 : (u : Int) / 4 = (q : Int) := by omega
  obtain ⟨m, hm⟩ : ∃ m, rnd u = m := ⟨_, rfl⟩
  have hm2 : ((u : Int) + 1 + (r : Int)) / 4 = (m : Int) := by
    rw [← hm, rnd, hq, hr]; omega
  rw [hm]
  have hr2 : r < 2 := by omega
  have hu2 : (u : Int) < 1152921504606846976 := by omega
  clear hq hr hm hu
  go_enter Tryz.func136, Tryz.ntmps136
  go_wp2
  go_ret
  exact ⟨rfl, rfl⟩
/-- A mantissa and an exponent, packed. -/
def pk (m : Nat) (e : Int) : Nat × Bool := if m / 4503599627370496 % 2 = 0 then (m, false) else if 972 ≤ e then (9218868437227405312, true) else (m - 4503599627370496 + (1075 + e).toNat * 4503599627370496, false)
theorem and_top (m sg : Nat) (hm : m < 9223372036854775808) (hs : sg = 0 ∨ sg = 9223372036854775808) : bits BinOp.and IntKind.u64 ((sg + m : Nat) : Int) 9223372036854775808 = (sg : Int) := by
  have h := u64_and_nat (sg + m) 9223372036854775808 (by omega) (by decide)
  have e : ((9223372036854775808 : Nat) : Int) = 9223372036854775808 := rfl
  rw [e] at h
  have h3 := and_bit_var 64 (sg + m) 63 (by decide)
  rw [h]
  have e2 : ((2 : Int) ^ min (63 : Int).toNat 64 % 2 ^ 64).toNat = 9223372036854775808 := by decide
  rw [e2, if_neg (by decide)] at h3
  rw [h3]
  have e3 : (63 : Int).toNat = 63 := rfl
  rw [e3]
  rcases hs with hs | hs <;> subst hs
  · rw [show (0 + m) / 2 ^ 63 % 2 = 0 from by omega]
  · rw [show (9223372036854775808 + m) / 2 ^ 63 % 2 = 1 from by omega]
theorem andNot_nat {x : Nat} (hx : x < 2 ^ 64) (hb : x / 2 ^ 52 % 2 = 1) : x &&& (18446744073709551615 - 4503599627370496) = x - 4503599627370496 := by
  obtain ⟨a, ha⟩ : ∃ a, x / 2 ^ 53 = a := ⟨_, rfl⟩
  obtain ⟨l, hl⟩ : ∃ l, x % 2 ^ 52 = l := ⟨_, rfl⟩
  have hl2 : l < 2 ^ 52 := by omega
  have ha2 : a < 2 ^ 11 := by omega
  have e1 : x = 2 ^ 53 * a + (2 ^ 52 * 1 + l) := by omega
  have e2 : x - 4503599627370496 = 2 ^ 53 * a + l := by omega
  have e3 : 18446744073709551615 - 4503599627370496 = 2 ^ 53 * (2 ^ 11 - 1) + (2 ^ 52 - 1) := by decide
  rw [e2, e3, e1]
  clear e1 e2 e3 hb hx ha hl x
  apply Nat.eq_of_testBit_eq
  intro i
  have t1 : (2 ^ 53 * a + (2 ^ 52 * 1 + l)).testBit i = if i < 53 then (2 ^ 52 * 1 + l).testBit i else a.testBit (i - 53) := Nat.testBit_two_pow_mul_add a (by omega) i
  have t2 : (2 ^ 53 * (2 ^ 11 - 1) + (2 ^ 52 - 1)).testBit i = if i < 53 then (2 ^ 52 - 1).testBit i else (2 ^ 11 - 1).testBit (i - 53) := Nat.testBit_two_pow_mul_add (2 ^ 11 - 1) (by decide) i
  have t3 : (2 ^ 53 * a + l).testBit i = if i < 53 then l.testBit i else a.testBit (i - 53) := Nat.testBit_two_pow_mul_add a (by omega) i
  have t4 : (2 ^ 52 * 1 + l).testBit i = if i < 52 then l.testBit i else (1 : Nat).testBit (i - 52) := Nat.testBit_two_pow_mul_add 1 hl2 i
  rw [Nat.testBit_and, t1, t2, t3]
  by_cases hi : i < 53
  · rw [if_pos hi, if_pos hi, if_pos hi, t4, Nat.testBit_two_pow_sub_one]
    by_cases h2 : i < 52
    · rw [if_pos h2, decide_eq_true h2, Bool.and_true]
    · rw [if_neg h2, decide_eq_false h2, Bool.and_false, Nat.testBit_lt_two_pow (Nat.lt_of_lt_of_le hl2 (Nat.pow_le_pow_right (by decide) (by omega)))]
  · rw [if_neg hi, if_neg hi, if_neg hi, Nat.testBit_two_pow_sub_one]
    by_cases h2 : i - 53 < 11
    · rw [decide_eq_true h2, Bool.and_true]
    · rw [decide_eq_false h2, Bool.and_false, Nat.testBit_lt_two_pow (Nat.lt_of_lt_of_le ha2 (Nat.pow_le_pow_right (by decide) (by omega)))]
theorem andNot_bit (m sg : Nat) (hm : 4503599627370496 ≤ m ∧ m < 9007199254740992) (hs : sg = 0 ∨ sg = 9223372036854775808) : bits BinOp.andNot IntKind.u64 ((sg + m : Nat) : Int) 4503599627370496 = ((sg + (m - 4503599627370496) : Nat) : Int) := by
  have h := u64_andNot_nat (sg + m) 4503599627370496 (by omega) (by decide)
  have e : ((4503599627370496 : Nat) : Int) = 4503599627370496 := rfl
  rw [e] at h
  rw [h, andNot_nat (by omega) (by omega), show sg + m - 4503599627370496 = sg + (m - 4503599627370496) from by omega]
theorem or_low (sg m : Nat) (hm : m < 9223372036854775808) (hs : sg = 0 ∨ sg = 9223372036854775808) : bits BinOp.or IntKind.u64 (sg : Int) (m : Int) = ((sg + m : Nat) : Int) := by
  rw [u64_or_nat sg m (by omega) (by omega)]
  congr 1
  rcases hs with hs | hs <;> subst hs
  · simp
  · have h2 := Nat.two_pow_add_eq_or_of_lt (i := 63) (b := m) (by omega) 1
    rw [show (9223372036854775808 : Nat) = 2 ^ 63 * 1 from by decide, ← h2]
/-- The sign above, the mantissa's rest, the exponent between. -/
theorem or_exp (sg l y : Nat) (hl : l < 4503599627370496) (hy : y ≤ 2047) (hs : sg = 0 ∨ sg = 9223372036854775808) : bits BinOp.or IntKind.u64 ((sg + l : Nat) : Int) ((y : Int) * 4503599627370496) = ((l + y * 4503599627370496 + sg : Nat) : Int) := by
  have h1 : ((y : Int) * 4503599627370496) = ((y * 4503599627370496 : Nat) : Int) := by omega
  rw [h1, u64_or_nat _ _ (by omega) (by omega)]
  congr 1
  have h2 := Nat.two_pow_add_eq_or_of_lt (i := 52) (b := l) (by omega) y
  rcases hs with hs | hs <;> subst hs
  · rw [Nat.zero_add, Nat.or_comm, show y * 4503599627370496 = 2 ^ 52 * y from by omega, ← h2]; omega
  · have h3 := Nat.two_pow_add_eq_or_of_lt (i := 63) (b := l) (by omega) 1
    have h4 := Nat.two_pow_add_eq_or_of_lt (i := 63) (b := 2 ^ 52 * y + l) (by omega) 1
    rw [show (9223372036854775808 : Nat) + l = 2 ^ 63 * 1 + l from by omega, h3, Nat.or_assoc, Nat.or_comm l, show y * 4503599627370496 = 2 ^ 52 * y from by omega, ← h2, ← h4]
    omega
theorem pk_low {m : Nat} {e : Int} (hm : m ≤ 9007199254740992) (he : -1074 ≤ e) : (pk m e).1 < 9223372036854775808 ∧ ((pk m e).2 = false → finW (pk m e).1 = true) := by
  unfold pk finW
  split
  · exact ⟨by dsimp only; omega, fun _ => decide_eq_true (by dsimp only; omega)⟩
  · split
    · exact ⟨by decide, fun h => by cases h⟩
    · exact ⟨by dsimp only; omega, fun _ => decide_eq_true (by dsimp only; omega)⟩
def ErrV (b : Bool) : Value := if b = true then .iface 157 (.int .i64 1) else .nilIface
set_option maxHeartbeats 2000000 in
theorem pack_any (m sg : Nat) (e : Int) (hm : m ≤ 9007199254740992) (hs : sg = 0 ∨ sg = 9223372036854775808) (he : -1074 ≤ e ∧ e ≤ 3000) (w : World) :
    Calls Tryz.prog 139 #[.int .u64 ((sg + m : Nat) : Int), .int .i64 e] w fun en w' => en = .returned (.tuple #[.float .f64 ((pk m e).1 + sg), ErrV (pk m e).2]) ∧ w' = w := by
  have h2 := from_call2
  have hbit := and_bit (sg + m) (by omega)
  have hmod : (sg + m) / 4503599627370496 % 2 = m / 4503599627370496 % 2 := by rcases hs with hs | hs <;> subst hs <;> omega
  rw [hmod] at hbit
  obtain ⟨M, hM⟩ : ∃ M, sg + m = M := ⟨_, rfl⟩
  have HM := Lib.hid hM
  have ht := and_top m sg (by omega) hs
  rw [hM] at hbit ht ⊢
  by_cases h0 : m / 4503599627370496 % 2 = 0
  · rw [decide_eq_true h0] at hbit
    have HP : Hid (pk m e = (m, false)) := Lib.hid (if_pos h0)
    clear hM ht hmod hm hs h0
    go_enter Tryz.func139, Tryz.ntmps139
    go_wp2
    go_ret2
    refine ⟨?_, rfl⟩
    rw [HP.out, ← HM.out, Nat.add_comm sg m]
    rfl
  · rw [decide_eq_false h0] at hbit
    by_cases h9 : 972 ≤ e
    · have HP : Hid (pk m e = (9218868437227405312, true)) := Lib.hid ((if_neg h0).trans (if_pos h9))
      have ho := or_low sg 9218868437227405312 (by decide) hs
      have e1 : ((9218868437227405312 : Nat) : Int) = 9218868437227405312 := rfl
      rw [e1] at ho
      obtain ⟨x, hx⟩ : ∃ x, sg + 9218868437227405312 = x := ⟨_, rfl⟩
      rw [hx] at ho
      have HX := Lib.hid hx
      clear hM hmod hm hs h0 hx
      go_enter Tryz.func139, Tryz.ntmps139
      go_wp2
      go_ret2
      refine ⟨?_, rfl⟩
      rw [HP.out, Nat.add_comm _ sg]
      dsimp only
      rw [HX.out]
      rfl
    · have hm1 : 4503599627370496 ≤ m ∧ m < 9007199254740992 := by omega
      have ha := andNot_bit m sg hm1 hs
      rw [hM] at ha
      obtain ⟨y, hy⟩ : ∃ y : Nat, 1075 + e = (y : Int) := ⟨(1075 + e).toNat, by omega⟩
      have ho := or_exp sg (m - 4503599627370496) y (by omega) (by omega) hs
      have HP : Hid (pk m e = (m - 4503599627370496 + y * 4503599627370496, false)) := Lib.hid ((if_neg h0).trans ((if_neg h9).trans (by rw [hy, Int.toNat_natCast])))
      obtain ⟨l, hl⟩ : ∃ l, sg + (m - 4503599627370496) = l := ⟨_, rfl⟩
      obtain ⟨x, hx⟩ : ∃ x, m - 4503599627370496 + y * 4503599627370496 + sg = x := ⟨_, rfl⟩
      rw [hl] at ha ho
      rw [hx] at ho
      have HX := Lib.hid hx
      have hy2 : y ≤ 2047 := by omega
      clear hM ht hmod hm hm1 hs h0 hx hl
      go_enter Tryz.func139, Tryz.ntmps139
      go_wp2
      go_ret2
      refine ⟨?_, rfl⟩
      rw [HP.out]
      dsimp only
      rw [HX.out]
      rfl
end Go.Proofs.YtadpeebcombjnaaGreatDoor
namespace Go.Proofs.YtadpeebcombjnaaGreatDoor
open Go Go.Proofs Go.RowKit Go.Lib
set_option maxRecDepth 100000
theorem tab_lt (k : Nat) : tabH k < 2 ^ 64 ∧ tabL k < 2 ^ 64 := by
  have h : (Go.Pinned.pow10Rows.all fun x => decide (x.1 < 2 ^ 64) && decide (x.2 < 2 ^ 64)) = true := by decide +kernel
  rw [List.all_eq_true] at h
  unfold tabH tabL
  rw [List.getD_eq_getElem?_getD]
  cases hk : Go.Pinned.pow10Rows[k]? with
  | none => exact ⟨by decide, by decide⟩
  | some x =>
    have := h x (List.mem_of_getElem? hk)
    rw [Bool.and_eq_true, decide_eq_true_eq, decide_eq_true_eq] at this
    exact this
set_option maxHeartbeats 2000000 in
theorem prescale_any {lo g : Nat} {w : World} (hT : Tabs lo w) (hg : lo ≤ g) {a b c : Value} (hr : Row w g #[a, b, c] 209) (k : Nat) (hk : k ≤ 695) (e lp : Int) (he : -100000 ≤ e ∧ e ≤ 100000) (hl : -100000 ≤ lp ∧ lp ≤ 100000) :
    Calls Tryz.prog 131 #[.pointer (some ⟨g, 0, none⟩), .int .i64 e, .int .i64 ((k : Int) - 348), .int .i64 lp] w fun en w' => en = .returned (.tuple #[]) ∧ Mod (· = g) w w' ∧ Row w' g #[.int .u64 (tabH k : Nat), .int .u64 (tabL k : Nat), .int .i64 (-(e + lp + 3))] 209 := by
  obtain ⟨t1, t2⟩ := hT.tab k hk
  have c0 := hr.cell (j := 0) rfl
  have c1 := hr.cell (j := 1) rfl
  have c2 := hr.cell (j := 2) rfl
  have cf := hr.frozen
  have hlow := hT.low
  have hg14 : (14 : Nat) ≠ g := by omega
  have hki : (k : Int) < 696 := by omega
  have HR := Lib.hid (((hr.set 0 (.int .u64 (tabH k : Nat))).set 1 (.int .u64 (tabL k : Nat))).set 2 (.int .i64 (-(e + lp + 3))))
  have HM := Lib.hid (set1_mod (set1_mod (set1_mod (Mod.refl (· = g) w) 0 (.int .u64 (tabH k : Nat))) 1 (.int .u64 (tabL k : Nat))) 2 (.int .i64 (-(e + lp + 3))))
  clear hT hr
  go_enter Tryz.func131, Tryz.ntmps131
  go_wp2
  go_end0
  exact ⟨rfl, HM.out, HR.out⟩
/-- What uscale gives. -/
def usc (x H L s : Nat) : Nat :=
  if x * H / 2 ^ 64 / 2 ^ s * 2 ^ s ≠ x * H / 2 ^ 64 then x * H / 2 ^ 64 / 2 ^ s ||| 1
  else (x * H / 2 ^ 64 + 2 ^ 64 - (decide (x * H % 2 ^ 64 < x * L / 2 ^ 64)).toNat) % 2 ^ 64 / 2 ^ s ||| (decide (1 < (x * H % 2 ^ 64 + 2 ^ 64 - x * L / 2 ^ 64) % 2 ^ 64)).toNat
set_option maxHeartbeats 4000000 in
theorem uscale_any {g : Nat} {w : World} {x H L s : Nat} (hr : Row w g #[.int .u64 (H : Nat), .int .u64 (L : Nat), .int .i64 (s : Nat)] 209) (hx : x < 2 ^ 64) (hH : H < 2 ^ 64) (hL : L < 2 ^ 64) (hs : s < 64) :
    Calls Tryz.prog 132 #[.int .u64 (x : Nat), .pointer (some ⟨g, 0, none⟩)] w fun en w' => en = .returned (.int .u64 (usc x H L s : Nat)) ∧ ∃ q, w' = w.drewN q := by
  have c0 := hr.cell (j := 0) rfl
  have c1 := hr.cell (j := 1) rfl
  have c2 := hr.cell (j := 2) rfl
  have m1 := Tryz.bits_Mul64 x H (by omega) (by omega) w
  have m2 := Tryz.bits_Mul64 x L (by omega) (by omega) w
  have a1 : bits BinOp.and IntKind.i64 (s : Int) 63 = (s : Int) := by
    have h : ∀ y : Fin 64, bits BinOp.and IntKind.i64 (y.val : Int) 63 = (y.val : Int) := by decide +kernel
    exact h ⟨s, hs⟩
  obtain ⟨res, hres⟩ : ∃ r, usc x H L s = r := ⟨_, rfl⟩
  rw [hres]
  have hres2 := hres
  unfold usc at hres2
  have hhi : x * H / 18446744073709551616 < 18446744073709551616 := by
    rw [Nat.div_lt_iff_lt_mul (by decide)]
    exact Nat.mul_lt_mul_of_lt_of_le hx (by omega) (by decide)
  have hmd : x * H % 18446744073709551616 < 18446744073709551616 := Nat.mod_lt _ (by decide)
  have hm2 : x * L / 18446744073709551616 < 18446744073709551616 := by
    rw [Nat.div_lt_iff_lt_mul (by decide)]
    exact Nat.mul_lt_mul_of_lt_of_le hx (by omega) (by decide)
  have e64 : (2 : Nat) ^ 64 = 18446744073709551616 := by decide
  rw [e64] at hres2
  obtain ⟨hi, hhi2⟩ : ∃ v, x * H / 18446744073709551616 = v := ⟨_, rfl⟩
  obtain ⟨md, hmd2⟩ : ∃ v, x * H % 18446744073709551616 = v := ⟨_, rfl⟩
  obtain ⟨m2v, hm22⟩ : ∃ v, x * L / 18446744073709551616 = v := ⟨_, rfl⟩
  rw [hhi2, hmd2] at m1
  rw [hm22] at m2
  rw [hhi2, hmd2, hm22] at hres2
  rw [hhi2] at hhi
  rw [hmd2] at hmd
  rw [hm22] at hm2
  have hsi : (s : Int) < 64 := by omega
  obtain ⟨q, hq⟩ : ∃ q, hi / 2 ^ s = q := ⟨_, rfl⟩
  have e2s : (2 : Int) ^ s = ((2 ^ s : Nat) : Int) := by rw [Int.natCast_pow]; rfl
  have eq1 : (hi : Int) / 2 ^ s = (q : Int) := by rw [e2s, ← hq, Int.natCast_ediv]
  obtain ⟨r, hrr⟩ : ∃ r, q * 2 ^ s = r := ⟨_, rfl⟩
  have hrle : r ≤ hi := by rw [← hrr, ← hq]; exact Nat.div_mul_le_self _ _
  have eq2 : IntKind.u64.wrap ((q : Int) * 2 ^ s) = (r : Int) := by
    rw [e2s, show (q : Int) * ((2 ^ s : Nat) : Int) = (r : Int) from by rw [← hrr, Int.natCast_mul]]
    exact IntWalk.u64_in _ (by omega)
  rw [hq, hrr] at hres2
  have hqlt : q < 18446744073709551616 := by
    rw [← hq]; exact Nat.lt_of_le_of_lt (Nat.div_le_self _ _) hhi
  by_cases hne : r ≠ hi
  · have hneb : ((r : Int) != (hi : Int)) = true := by rw [bne_iff_ne]; omega
    rw [if_pos hne] at hres2
    have ho : bits BinOp.or IntKind.u64 (q : Int) 1 = (res : Int) := by
      have h := u64_or_nat q 1 hqlt (by decide)
      have e : ((1 : Nat) : Int) = 1 := rfl
      rw [e] at h
      rw [h, hres2]
    clear hres hres2 hr hhi2 hmd2 hm22 e64 hx hH hL hs hq hrr hrle hne e2s m2
    go_enter Tryz.func132, Tryz.ntmps132
    go_wp2_with fail
    refine m1.mono ?_
    rintro _ wq ⟨rfl, hwq⟩
    rw [hwq]
    clear hwq m1
    go_wp2_with fail
    go_ret
    exact ⟨rfl, 0, rfl⟩
  · have hre : r = hi := by omega
    have hneb : ((r : Int) != (hi : Int)) = false := by rw [bne_eq_false_iff_eq]; omega
    rw [if_neg hne] at hres2
    obtain ⟨b1, hb1⟩ : ∃ b, decide (md < m2v) = b := ⟨_, rfl⟩
    obtain ⟨h2, hh2⟩ : ∃ v, (hi + 18446744073709551616 - b1.toNat) % 18446744073709551616 = v := ⟨_, rfl⟩
    obtain ⟨d, hd⟩ : ∃ v, (md + 18446744073709551616 - m2v) % 18446744073709551616 = v := ⟨_, rfl⟩
    obtain ⟨b2, hb2⟩ : ∃ b, decide (1 < d) = b := ⟨_, rfl⟩
    obtain ⟨q2, hq2⟩ : ∃ v, h2 / 2 ^ s = v := ⟨_, rfl⟩
    have hb1n : b1.toNat ≤ 1 := by cases b1 <;> decide
    have hb2n : b2.toNat ≤ 1 := by cases b2 <;> decide
    rw [hb1, hh2, hq2, hd, hb2] at hres2
    have f1 : IntKind.u64.wrap ((hi : Int) - (b1.toNat : Int)) = (h2 : Int) := by rw [IntKind.wrap_u64]; omega
    have f2 : IntKind.u64.wrap ((md : Int) - (m2v : Int)) = (d : Int) := by rw [IntKind.wrap_u64]; omega
    have f3 : (h2 : Int) / 2 ^ s = (q2 : Int) := by rw [e2s, ← hq2, Int.natCast_ediv]
    have hq2lt : q2 < 18446744073709551616 := by
      rw [← hq2]; exact Nat.lt_of_le_of_lt (Nat.div_le_self _ _) (by omega)
    have ho : bits BinOp.or IntKind.u64 (q2 : Int) (b2.toNat : Int) = (res : Int) := by rw [u64_or_nat q2 b2.toNat hq2lt (by omega), hres2]
    have hb2i : decide ((1 : Int) < (d : Int)) = b2 := by rw [← hb2, decide_eq_decide]; omega
    have c119 := bool64_any b1 w
    have d119 := fun q => bool64_any b2 (w.drewN q)
    obtain ⟨n1, hn1⟩ : ∃ n, b1.toNat = n := ⟨_, rfl⟩
    obtain ⟨n2, hn2⟩ : ∃ n, b2.toNat = n := ⟨_, rfl⟩
    rw [hn1] at f1 c119
    rw [hn2] at ho d119
    clear hres hres2 hr hhi2 hmd2 hm22 e64 hx hH hL hs hq hrr hrle hne e2s hh2 hd hq2 hb1n hb2n hre hn1 hn2
    go_enter Tryz.func132, Tryz.ntmps132
    go_wp2_with fail
    refine m1.mono ?_
    rintro _ wq ⟨rfl, hwq⟩
    rw [hwq]
    clear hwq m1
    go_wp2_with fail
    refine m2.mono ?_
    rintro _ wq ⟨rfl, hwq⟩
    rw [hwq]
    clear hwq m2
    go_wp2_with fail
    refine c119.mono ?_
    rintro _ wq ⟨rfl, hwq⟩
    rw [hwq]
    clear hwq c119
    go_wp2_with fail
    go_quiet ((go_at_call 119; exact Calls.quiet_of_same (d119 _)))
    go_wp2_with fail
    go_ret
    exact ⟨rfl, _, rfl⟩
end Go.Proofs.YtadpeebcombjnaaGreatDoor
