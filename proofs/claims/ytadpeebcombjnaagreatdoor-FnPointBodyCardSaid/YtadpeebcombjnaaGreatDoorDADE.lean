/- Multiprecision decimals: what a decimal in memory is; trim. -/
import Derived.Test.YtadpeebcombjnaaGreatDoorL0L2
import Derived.Lib.Hide
import Derived.Deep.QuietTactic
import Derived.BigQuiet
import Derived.StillTailTactics
import Derived.Deep.DeepMust
import Derived.Deep.LoopGhost
import Derived.Deep.DeepFit
import Derived.Outline
import Derived.Laws.BitsAllLaws
import GoSem.PinnedTables
import Derived.Deep.CutBlock
namespace Go.Proofs.YtadpeebcombjnaaGreatDoor
open Go Go.Proofs Go.RowKit Go.Lib
set_option maxRecDepth 100000
/-- Digit i of P, from the right. -/
def dgt (P i : Nat) : Nat := P / 10 ^ i % 10
theorem dgt_lt (P i : Nat) : dgt P i < 10 := Nat.mod_lt _ (by decide)
theorem dgt_div (P i : Nat) : dgt (P / 10) i = dgt P (i + 1) := by
  unfold dgt
  rw [Nat.div_div_eq_div_mul, Nat.pow_succ, Nat.mul_comm]
/-- A decimal in memory: its digits are those of P, written with nd digits. -/
structure DC (C : Array Value) (P nd : Nat) (dp : Int) (neg tr : Bool) : Prop where
  size : C.size = 804
  byte : ∀ j, j < 800 → ∃ x : Nat, x < 256 ∧ C[j]? = some (.int .u8 (x : Nat))
  dig : ∀ j, j < nd → C[j]? = some (.int .u8 (48 + dgt P (nd - 1 - j) : Nat))
  cnd : C[800]? = some (.int .i64 (nd : Nat))
  cdp : C[801]? = some (.int .i64 dp)
  cneg : C[802]? = some (.bool neg)
  ctr : C[803]? = some (.bool tr)
  le : nd ≤ 800
  lt : P < 10 ^ nd
def Dc (w : World) (g : Nat) (P nd : Nat) (dp : Int) (neg tr : Bool) : Prop := ∃ C, Row w g C 192 ∧ DC C P nd dp neg tr
/-- Without zeros at the end. -/
def trimN : Nat → Nat → Nat × Nat
  | P, 0 => (P, 0)
  | P, n + 1 => if P % 10 = 0 then trimN (P / 10) n else (P, n + 1)
theorem get_set (C : Array Value) (j k : Nat) (v : Value) (h : j ≠ k) : (C.setIfInBounds j v)[k]? = C[k]? := by
  rw [Array.getElem?_setIfInBounds, if_neg h]
theorem get_self (C : Array Value) (j : Nat) (v : Value) (h : j < C.size) : (C.setIfInBounds j v)[j]? = some v := by
  rw [Array.getElem?_setIfInBounds, if_pos rfl, if_pos h]
theorem DC.shrink {C : Array Value} {P n : Nat} {dp : Int} {neg tr : Bool} (h : DC C P (n + 1) dp neg tr) : DC (C.setIfInBounds 800 (.int .i64 (n : Nat))) (P / 10) n dp neg tr := by
  refine ⟨by simpa using h.size, fun j hj => ?_, fun j hj => ?_, get_self _ _ _ (by rw [h.size]; decide), ?_, ?_, ?_, by have := h.le; omega, ?_⟩
  · rw [get_set _ _ _ _ (by omega)]; exact h.byte j hj
  · have := h.le
    rw [get_set _ _ _ _ (by omega), h.dig j (by omega), dgt_div, show n + 1 - 1 - j = n - 1 - j + 1 from by omega]
  · rw [get_set _ _ _ _ (by omega)]; exact h.cdp
  · rw [get_set _ _ _ _ (by omega)]; exact h.cneg
  · rw [get_set _ _ _ _ (by omega)]; exact h.ctr
  · have := h.lt
    rw [Nat.pow_succ] at this
    omega
theorem DC.zero_dp {C : Array Value} {P : Nat} {dp : Int} {neg tr : Bool} (h : DC C P 0 dp neg tr) : DC (C.setIfInBounds 801 (.int .i64 0)) P 0 0 neg tr := by
  refine ⟨by simpa using h.size, fun j hj => ?_, fun j hj => by omega, ?_, get_self _ _ _ (by rw [h.size]; decide), ?_, ?_, h.le, h.lt⟩
  · rw [get_set _ _ _ _ (by omega)]; exact h.byte j hj
  · rw [get_set _ _ _ _ (by omega)]; exact h.cnd
  · rw [get_set _ _ _ _ (by omega)]; exact h.cneg
  · rw [get_set _ _ _ _ (by omega)]; exact h.ctr
theorem set1_mod {g : Nat} {w0 w : World} (h : Mod (· = g) w0 w) (j : Nat) (v : Value) : Mod (· = g) w0 (w.setCell ⟨g, j, none⟩ v) := h.setCell (fun _ => rfl) v
def trimDp (P n : Nat) (dp : Int) : Int := if (trimN P n).2 = 0 then 0 else dp
/-- What a call leaves that writes in the decimal alone. -/
def DPost (g P nd : Nat) (dp : Int) (neg tr : Bool) (w : World) (e : Ending) (w' : World) : Prop := e = .returned (.tuple #[]) ∧ Mod (· = g) w w' ∧ Dc w' g P nd dp neg tr
theorem trimN_stop {Q n : Nat} (h : n = 0 ∨ Q % 10 ≠ 0) : trimN Q n = (Q, n) := by
  cases n with
  | zero => rfl
  | succ n =>
    rcases h with h | h
    · cases h
    · rw [trimN, if_neg h]
set_option maxHeartbeats 4000000 in
theorem trim_any (g P n : Nat) (dp : Int) (neg tr : Bool) (w : World) (hd : Dc w g P n dp neg tr) : Calls Tryz.prog 150 #[.pointer (some ⟨g, 0, none⟩)] w (DPost g (trimN P n).1 (trimN P n).2 (trimDp P n dp) neg tr w) := by
  have HD := Lib.hid hd
  have hn := hd.choose_spec.2.le
  clear hd
  go_enter Tryz.func150, Tryz.ntmps150
  go_wp2_with fail
  go_loopg [] n (fun gh wr => Hid (Mod (· = g) w wr) ∧ gh ≤ 800 ∧ ∃ Q : Nat, Hid (Dc wr g Q gh dp neg tr) ∧ Hid (trimN P n = trimN Q gh))
  case atStart => exact ⟨Lib.hid (Mod.refl _ _), hn, P, HD, Lib.hid rfl⟩
  case round =>
    obtain ⟨HM, h8, Q, HD, HT⟩ := hrel
    obtain ⟨C, hrow, hc⟩ := HD.out
    have c0 : wr.cell? ⟨g, 800, none⟩ = some (.int .i64 (gk : Nat)) := hrow.cell hc.cnd
    have cf := hrow.frozen
    have HR := Lib.hid hrow
    cases gk with
    | zero =>
      have HC := Lib.hid hc
      have c0 : wr.cell? ⟨g, 800, none⟩ = some (.int .i64 0) := c0
      have c1 : wr.cell? ⟨g, 801, none⟩ = some (.int .i64 dp) := hrow.cell hc.cdp
      have hno : decide ((0 : Int) > 0) = false := rfl
      clear hrow hc
      go_wp2_with fail
      go_quiet (fail)
      go_wp2_with fail
      go_end0
      have ht := HT.out.trans (trimN_stop (.inl rfl))
      refine ⟨rfl, set1_mod (HM.out.drewN nq) 801 _, ?_⟩
      unfold trimDp
      rw [ht]
      exact ⟨_, Row.set (w := wr.drewN nq) HR.out 801 _, HC.out.zero_dp⟩
    | succ n =>
      have hc1 := hc.dig n (by omega)
      rw [show n + 1 - 1 - n = 0 from by omega] at hc1
      have c1 := hrow.cell hc1
      have HC := Lib.hid hc
      have hn0 : (0 : Int) < (n : Int) + 1 := by omega
      have hn1 : (n : Int) < 800 := by omega
      clear hrow hc hc1
      by_cases hz : Q % 10 = 0
      · have e : 48 + dgt Q 0 = 48 := by unfold dgt; rw [Nat.pow_zero, Nat.div_one, hz]
        rw [e] at c1
        have HZ := Lib.hid hz
        clear e hz
        go_wp2_with fail
        go_quiet (fail)
        go_wp2_with fail
        go_roundg n
        case measure => omega
        case rel => exact ⟨Lib.hid (set1_mod (HM.out.drewN nq) 800 _), by omega, Q / 10, Lib.hid ⟨_, Row.set (w := wr.drewN nq) HR.out 800 _, HC.out.shrink⟩, Lib.hid (by rw [HT.out, trimN, if_pos HZ.out])⟩
      · obtain ⟨x, hx⟩ : ∃ x, 48 + dgt Q 0 = x := ⟨_, rfl⟩
        have hb : ((x : Int) == 48) = false := by
          rw [beq_eq_false_iff_ne]
          unfold dgt at hx
          rw [Nat.pow_zero, Nat.div_one] at hx
          omega
        rw [hx] at c1
        have HZ := Lib.hid hz
        clear hz hx
        go_wp2_with fail
        go_quiet (fail)
        go_wp2_with fail
        go_end0
        have ht := HT.out.trans (trimN_stop (.inr HZ.out))
        refine ⟨rfl, HM.out.drewN nq, ?_⟩
        unfold trimDp
        rw [ht]
        exact ⟨C, HR.out, HC.out⟩
end Go.Proofs.YtadpeebcombjnaaGreatDoor
namespace Go.Proofs.YtadpeebcombjnaaGreatDoor
open Go Go.Proofs Go.RowKit Go.Lib
set_option maxRecDepth 100000
theorem div_split (P i : Nat) : P / 10 ^ i = 10 * (P / 10 ^ (i + 1)) + dgt P i := by
  unfold dgt
  rw [Nat.pow_succ, ← Nat.div_div_eq_div_mul]
  omega
theorem ten_pos (i : Nat) : 0 < 10 ^ i := Nat.pow_pos (by decide)
theorem div_lt_iff' {P a i : Nat} : P / 10 ^ i < a ↔ P < a * 10 ^ i := Nat.div_lt_iff_lt_mul (ten_pos i)
theorem le_div_iff' {P a i : Nat} : a ≤ P / 10 ^ i ↔ a * 10 ^ i ≤ P := Nat.le_div_iff_mul_le (ten_pos i)
/-- Whether the digits of P stand before those of K, both behind a point. -/
def plt (P nd K L : Nat) : Bool := decide (P * 10 ^ L < K * 10 ^ nd)
theorem plt_step {P nd K L i : Nat} (h1 : i < nd) (h2 : i < L) (h : P / 10 ^ (nd - i) = K / 10 ^ (L - i)) (hd : dgt P (nd - 1 - i) ≠ dgt K (L - 1 - i)) :
    plt P nd K L = decide (dgt P (nd - 1 - i) < dgt K (L - 1 - i)) := by
  obtain ⟨a, rfl⟩ : ∃ a, nd = i + a + 1 := ⟨nd - i - 1, by omega⟩
  obtain ⟨b, rfl⟩ : ∃ b, L = i + b + 1 := ⟨L - i - 1, by omega⟩
  rw [show i + a + 1 - i = a + 1 from by omega, show i + b + 1 - i = b + 1 from by omega] at h
  rw [show i + a + 1 - 1 - i = a from by omega, show i + b + 1 - 1 - i = b from by omega] at hd ⊢
  have e1 := div_split P a
  have e2 := div_split K b
  rw [h] at e1
  have t1 : ∀ {u v x y : Nat}, u < v → u = P / 10 ^ a → v = K / 10 ^ b → P * 10 ^ b < K * 10 ^ a := by
    intro u v x y huv hu hv
    have p1 : P < (u + 1) * 10 ^ a := div_lt_iff'.1 (by omega)
    have p2 : v * 10 ^ b ≤ K := le_div_iff'.1 (by omega)
    calc P * 10 ^ b < (u + 1) * 10 ^ a * 10 ^ b := Nat.mul_lt_mul_of_pos_right p1 (ten_pos b)
      _ ≤ v * 10 ^ a * 10 ^ b := Nat.mul_le_mul_right _ (Nat.mul_le_mul_right _ huv)
      _ = v * 10 ^ b * 10 ^ a := by rw [Nat.mul_right_comm]
      _ ≤ K * 10 ^ a := Nat.mul_le_mul_right _ p2
  have t2 : ∀ {u v : Nat}, v < u → u = P / 10 ^ a → v = K / 10 ^ b → K * 10 ^ a < P * 10 ^ b := by
    intro u v huv hu hv
    have p1 : K < (v + 1) * 10 ^ b := div_lt_iff'.1 (by omega)
    have p2 : u * 10 ^ a ≤ P := le_div_iff'.1 (by omega)
    calc K * 10 ^ a < (v + 1) * 10 ^ b * 10 ^ a := Nat.mul_lt_mul_of_pos_right p1 (ten_pos a)
      _ ≤ u * 10 ^ b * 10 ^ a := Nat.mul_le_mul_right _ (Nat.mul_le_mul_right _ huv)
      _ = u * 10 ^ a * 10 ^ b := by rw [Nat.mul_right_comm]
      _ ≤ P * 10 ^ b := Nat.mul_le_mul_right _ p2
  have q1 : P * 10 ^ (i + b + 1) = P * 10 ^ b * 10 ^ (i + 1) := by rw [show i + b + 1 = b + (i + 1) from by omega, Nat.pow_add, Nat.mul_assoc]
  have q2 : K * 10 ^ (i + a + 1) = K * 10 ^ a * 10 ^ (i + 1) := by rw [show i + a + 1 = a + (i + 1) from by omega, Nat.pow_add, Nat.mul_assoc]
  unfold plt
  rw [decide_eq_decide, q1, q2, Nat.mul_lt_mul_right (ten_pos _)]
  constructor
  · intro hlt
    rcases Nat.lt_or_ge (dgt P a) (dgt K b) with h3 | h3
    · exact h3
    · have := t2 (u := P / 10 ^ a) (v := K / 10 ^ b) (by omega) rfl rfl
      omega
  · intro hlt
    exact t1 (u := P / 10 ^ a) (v := K / 10 ^ b) (x := 0) (y := 0) (by omega) rfl rfl
theorem plt_more {P nd K L i : Nat} (h1 : i < nd) (h2 : i < L) (h : P / 10 ^ (nd - i) = K / 10 ^ (L - i)) (hd : dgt P (nd - 1 - i) = dgt K (L - 1 - i)) : P / 10 ^ (nd - (i + 1)) = K / 10 ^ (L - (i + 1)) := by
  have e1 := div_split P (nd - 1 - i)
  have e2 := div_split K (L - 1 - i)
  rw [show nd - 1 - i + 1 = nd - i from by omega] at e1
  rw [show L - 1 - i + 1 = L - i from by omega] at e2
  rw [show nd - (i + 1) = nd - 1 - i from by omega, show L - (i + 1) = L - 1 - i from by omega, e1, e2, h, hd]
theorem plt_short {P nd K L : Nat} (h2 : nd < L) (h : P / 10 ^ (nd - nd) = K / 10 ^ (L - nd)) (hK : K % 10 ≠ 0) : plt P nd K L = true := by
  obtain ⟨b, rfl⟩ : ∃ b, L = nd + b + 1 := ⟨L - nd - 1, by omega⟩
  rw [Nat.sub_self, Nat.pow_zero, Nat.div_one, show nd + b + 1 - nd = b + 1 from by omega] at h
  unfold plt
  rw [decide_eq_true_eq, show nd + b + 1 = (b + 1) + nd from by omega, Nat.pow_add, ← Nat.mul_assoc]
  refine Nat.mul_lt_mul_of_pos_right ?_ (ten_pos nd)
  have hle : P * 10 ^ (b + 1) ≤ K := le_div_iff'.1 (by omega)
  rcases Nat.lt_or_ge (P * 10 ^ (b + 1)) K with h3 | h3
  · exact h3
  · have he : K = P * 10 ^ b * 10 := by rw [Nat.mul_assoc, show 10 ^ b * 10 = 10 ^ (b + 1) from rfl]; omega
    rw [he, Nat.mul_mod_left] at hK
    exact absurd rfl hK
theorem plt_end {P nd K L : Nat} (h2 : L ≤ nd) (h : P / 10 ^ (nd - L) = K / 10 ^ (L - L)) : plt P nd K L = false := by
  obtain ⟨a, rfl⟩ : ∃ a, nd = a + L := ⟨nd - L, by omega⟩
  rw [Nat.sub_self, Nat.pow_zero, Nat.div_one, show a + L - L = a from by omega] at h
  unfold plt
  rw [decide_eq_false_iff_not, Nat.pow_add, ← Nat.mul_assoc, Nat.mul_lt_mul_right (ten_pos _)]
  have := (le_div_iff' (P := P) (a := K) (i := a)).1 (by omega)
  omega
set_option maxHeartbeats 4000000 in
theorem plt_any (g P nd cap : Nat) (dp : Int) (neg tr : Bool) (K : Nat) (s : ByteArray) (w : World) (hd : Dc w g P nd dp neg tr) (_hL : s.size ≤ 100) (hs : ∀ j (h : j < s.size), s[j].toNat = 48 + dgt K (s.size - 1 - j)) (hK : K < 10 ^ s.size) (h5 : s.size = 0 ∨ K % 10 ≠ 0) :
    Calls Tryz.prog 149 #[.slice (some ⟨g, 0, none⟩) nd cap, .string s] w fun e w' => e = .returned (.bool (plt P nd K s.size)) ∧ ∃ k, w' = w.drewN k := by
  obtain ⟨C, hrow, hc⟩ := hd
  have hn := hc.le
  have HC := Lib.hid hc
  have HR := Lib.hid hrow
  have HS := Lib.hid hs
  have HK := Lib.hid hK
  have H5 := Lib.hid h5
  clear hc hrow hs hK h5
  go_enter Tryz.func149, Tryz.ntmps149
  go_wp2_with fail
  go_loopg [5] s.size (fun gh vi wr => ∃ i q : Nat, i + gh = s.size ∧ vi = .int .i64 (i : Nat) ∧ wr = w.drewN q ∧ i ≤ nd ∧ Hid (P / 10 ^ (nd - i) = K / 10 ^ (s.size - i)))
  case atStart => exact ⟨0, 0, by omega, rfl, rfl, by omega, Lib.hid (by
      rw [Nat.div_eq_of_lt (show K < 10 ^ (s.size - 0) from HK.out), Nat.div_eq_of_lt (show P < 10 ^ (nd - 0) from HC.out.lt)])⟩
  case round =>
    obtain ⟨i, q, hi, rfl, rfl, hin, HE⟩ := hrel
    by_cases hlt : i < s.size
    · by_cases hnd : i < nd
      · have c1 : w.cell? ⟨g, i, none⟩ = some (.int .u8 (48 + dgt P (nd - 1 - i) : Nat)) := HR.out.cell (HC.out.dig i hnd)
        have hsi := HS.out i hlt
        have hpd := dgt_lt P (nd - 1 - i)
        have hkd := dgt_lt K (s.size - 1 - i)
        by_cases he : dgt P (nd - 1 - i) = dgt K (s.size - 1 - i)
        · have hb : (((48 + dgt P (nd - 1 - i) : Nat) : Int) != (s[i].toNat : Int)) = false := by rw [bne_eq_false_iff_eq, hsi, he]
          have HE2 := Lib.hid (plt_more hnd hlt HE.out he)
          obtain ⟨x, hx⟩ : ∃ x, 48 + dgt P (nd - 1 - i) = x := ⟨_, rfl⟩
          rw [hx] at hb c1
          clear hx hsi hpd hkd he
          go_wp2_with fail
          go_quiet (fail)
          go_wp2_with fail
          go_roundg (s.size - (i + 1))
          case measure => omega
          case rel => exact ⟨i + 1, _, by omega, by go_num, rfl, by omega, HE2⟩
        · have hb : (((48 + dgt P (nd - 1 - i) : Nat) : Int) != (s[i].toNat : Int)) = true := by rw [bne_iff_ne, hsi]; omega
          have HE2 := Lib.hid (plt_step hnd hlt HE.out he)
          have hb2 : decide ((48 + dgt P (nd - 1 - i) : Nat) < s[i].toNat) = decide (dgt P (nd - 1 - i) < dgt K (s.size - 1 - i)) := by rw [decide_eq_decide, hsi]; omega
          rw [← hb2] at HE2
          obtain ⟨x, hx⟩ : ∃ x, 48 + dgt P (nd - 1 - i) = x := ⟨_, rfl⟩
          rw [hx] at hb c1 HE2
          clear hx hsi hpd hkd he hb2
          go_wp2_with fail
          go_quiet (fail)
          go_wp2_with fail
          go_quiet (fail)
          go_wp2_with fail
          go_ret
          exact ⟨by rw [HE2.out]; rfl, _, by rw [World.drewN_drewN, World.drewN_drewN]⟩
      · obtain rfl : i = nd := by omega
        have HE2 := Lib.hid (plt_short hlt HE.out (H5.out.resolve_left (by omega)))
        go_wp2_with fail
        go_ret
        exact ⟨by rw [HE2.out]; rfl, _, rfl⟩
    · obtain rfl : i = s.size := by omega
      have HE2 := Lib.hid (plt_end hin HE.out)
      go_wp2_with fail
      go_ret
      exact ⟨by rw [HE2.out]; rfl, _, rfl⟩
end Go.Proofs.YtadpeebcombjnaaGreatDoor
namespace Go.Proofs.YtadpeebcombjnaaGreatDoor
open Go Go.Proofs Go.RowKit Go.Lib
set_option maxRecDepth 100000
def chD (k : Nat) : Nat := (Go.Pinned.cheatRows.getD k (0, [])).1
def chS (k : Nat) : List UInt8 := (Go.Pinned.cheatRows.getD k (0, [])).2
structure CheatOk (k : Nat) : Prop where
  up : 2 ^ k < 10 ^ chD k
  low : 10 ^ (chD k - 1) ≤ 2 ^ k
  len : (chS k).length + chD k = k + 1
  pos : 1 ≤ chD k
  top : chD k ≤ 19
  dig : ∀ j, j < (chS k).length → ((chS k).getD j 0).toNat = 48 + dgt (5 ^ k) ((chS k).length - 1 - j)
  lt : 5 ^ k < 10 ^ (chS k).length
  odd : 5 ^ k % 10 ≠ 0
theorem cheat_ok (k : Nat) (h1 : 1 ≤ k) (h2 : k ≤ 60) : CheatOk k := by
  have h : ∀ k : Fin 61, 1 ≤ k.val → 2 ^ k.val < 10 ^ chD k.val ∧ 10 ^ (chD k.val - 1) ≤ 2 ^ k.val ∧ (chS k.val).length + chD k.val = k.val + 1 ∧ 1 ≤ chD k.val ∧ chD k.val ≤ 19 ∧ (∀ j, j < (chS k.val).length → ((chS k.val).getD j 0).toNat = 48 + dgt (5 ^ k.val) ((chS k.val).length - 1 - j)) ∧ 5 ^ k.val < 10 ^ (chS k.val).length ∧ 5 ^ k.val % 10 ≠ 0 := by decide +kernel
  obtain ⟨a, b, c, d, e, f, g, i⟩ := h ⟨k, by omega⟩ h1
  exact ⟨a, b, c, d, e, f, g, i⟩
/-- How many digits more a product with 2^k has. -/
def shlD (k P nd : Nat) : Nat := if P * 2 ^ k < 10 ^ (nd + chD k - 1) then chD k - 1 else chD k
theorem ten_k (k : Nat) : 10 ^ k = 5 ^ k * 2 ^ k := by rw [← Nat.mul_pow]
theorem shl_plt {k : Nat} (H : CheatOk k) (P nd : Nat) : plt P nd (5 ^ k) (chS k).length = decide (P * 2 ^ k < 10 ^ (nd + chD k - 1)) := by
  have h2 : 0 < 2 ^ k := Nat.two_pow_pos k
  have hl := H.len
  have hp := H.pos
  unfold plt
  rw [decide_eq_decide, ← Nat.mul_lt_mul_right h2]
  have e1 : P * 10 ^ (chS k).length * 2 ^ k = P * 2 ^ k * 10 ^ (chS k).length := by rw [Nat.mul_right_comm]
  have e2 : 5 ^ k * 10 ^ nd * 2 ^ k = 10 ^ (nd + chD k - 1) * 10 ^ (chS k).length := by
    rw [Nat.mul_right_comm, ← ten_k, ← Nat.pow_add, ← Nat.pow_add]
    congr 1; omega
  rw [e1, e2, Nat.mul_lt_mul_right (ten_pos _)]
theorem shl_bounds {k : Nat} (H : CheatOk k) {P nd : Nat} (h1 : P < 10 ^ nd) (h2 : 10 ^ (nd - 1) ≤ P) (h3 : 1 ≤ nd) : P * 2 ^ k < 10 ^ (nd + shlD k P nd) ∧ 10 ^ (nd + shlD k P nd - 1) ≤ P * 2 ^ k := by
  have hp := H.pos
  unfold shlD
  by_cases h : P * 2 ^ k < 10 ^ (nd + chD k - 1)
  · rw [if_pos h]
    refine ⟨by rwa [show nd + (chD k - 1) = nd + chD k - 1 from by omega], ?_⟩
    rw [show nd + (chD k - 1) - 1 = (nd - 1) + (chD k - 1) from by omega, Nat.pow_add]
    exact Nat.mul_le_mul h2 H.low
  · rw [if_neg h]
    refine ⟨?_, by omega⟩
    rw [Nat.pow_add]
    exact Nat.mul_lt_mul_of_lt_of_le h1 (Nat.le_of_lt H.up) (ten_pos _)
def pwt (k : Nat) : Nat := [1, 3, 6, 9, 13, 16, 19, 23, 26].getD k 0
def fpt (k : Nat) : Nat := [4607182418800017408, 4621819117588971520, 4636737291354636288, 4652007308841189376, 4666723172467343360, 4681608360884174848, 4696837146684686336, 4711630319722168320, 4726483295884279808, 4741671816366391296, 4756540486875873280, 4771362005757984768, 4786511204640096256, 4801453603149578240, 4816244402031689728, 4831355200913801216, 4846369599423283200, 4861130398305394688, 4876203697187506176, 4891288408196988160, 4906019910204099648, 4921056587992461136, 4936209963552724370].getD k 0
def tabH (k : Nat) : Nat := (Go.Pinned.pow10Rows.getD k (0, 0)).1
def tabL (k : Nat) : Nat := (Go.Pinned.pow10Rows.getD k (0, 0)).2
/-- The package's tables, in blocks below lo. -/
structure Tabs (lo : Nat) (w : World) : Prop where
  low : 24 ≤ lo
  cheats : ∃ b o c : Nat, b < lo ∧ w.cell? ⟨15, 0, none⟩ = some (.slice (some ⟨b, o, none⟩) 61 c) ∧ ∀ k, k ≤ 60 → w.cell? ⟨b, o + k * 2, none⟩ = some (.int .i64 (chD k : Nat)) ∧ w.cell? ⟨b, o + k * 2 + 1, none⟩ = some (.string ⟨(chS k).toArray⟩)
  pow : ∃ b o c : Nat, b < lo ∧ w.cell? ⟨12, 0, none⟩ = some (.slice (some ⟨b, o, none⟩) 9 c) ∧ ∀ k, k ≤ 8 → w.cell? ⟨b, o + k, none⟩ = some (.int .i64 (pwt k : Nat))
  fpow : ∃ b o c : Nat, b < lo ∧ w.cell? ⟨13, 0, none⟩ = some (.slice (some ⟨b, o, none⟩) 23 c) ∧ ∀ k, k ≤ 22 → w.cell? ⟨b, o + k, none⟩ = some (.float .f64 (fpt k))
  tab : ∀ k, k ≤ 695 → w.cell? ⟨14, k * 2, none⟩ = some (.int .u64 (tabH k : Nat)) ∧ w.cell? ⟨14, k * 2 + 1, none⟩ = some (.int .u64 (tabL k : Nat))
  opt : w.cell? ⟨9, 0, none⟩ = some (.bool true)
  info : w.cell? ⟨10, 0, none⟩ = some (.int .u64 52) ∧ w.cell? ⟨10, 1, none⟩ = some (.int .u64 11) ∧ w.cell? ⟨10, 2, none⟩ = some (.int .i64 (-1023))
  syn : ∃ (b o : Nat) (x : ByteArray), b < lo ∧ w.cell? ⟨6, 0, none⟩ = some (.iface 199 (.pointer (some ⟨b, o, none⟩))) ∧ w.cell? ⟨b, o, none⟩ = some (.string x)
  rng : ∃ (b o : Nat) (x : ByteArray), b < lo ∧ w.cell? ⟨7, 0, none⟩ = some (.iface 199 (.pointer (some ⟨b, o, none⟩))) ∧ w.cell? ⟨b, o, none⟩ = some (.string x)
theorem cell_at_below {base : Nat} {w w' : World} (hb : Below base w w') {a : Addr} {v : Value} (hg : a.block < base) (h : w.cell? a = some v) : w'.cell? a = some v := by
  unfold World.cell? at h ⊢
  rw [hb.block _ hg]
  exact h
theorem Tabs.mono {lo base : Nat} {w w' : World} (hl : lo ≤ base) (hb : Below base w w') (h : Tabs lo w) : Tabs lo w' := by
  have hlow := h.low
  obtain ⟨h0, ⟨b1, o1, c1, p1, q1, r1⟩, ⟨b2, o2, c2, p2, q2, r2⟩, ⟨b3, o3, c3, p3, q3, r3⟩, h4, h5, ⟨h6, h7, h8⟩, ⟨a9, e9, x9, p9, q9, r9⟩, ⟨a10, e10, x10, p10, q10, r10⟩⟩ := h
  have C := fun {a : Addr} {v : Value} (hg : a.block < lo) (h : w.cell? a = some v) => cell_at_below hb (a := a) (v := v) (by omega) h
  exact ⟨h0, ⟨b1, o1, c1, p1, C (by show 15 < lo; omega) q1, fun k hk => ⟨C p1 (r1 k hk).1, C p1 (r1 k hk).2⟩⟩, ⟨b2, o2, c2, p2, C (by show 12 < lo; omega) q2, fun k hk => C p2 (r2 k hk)⟩,
    ⟨b3, o3, c3, p3, C (by show 13 < lo; omega) q3, fun k hk => C p3 (r3 k hk)⟩, fun k hk => ⟨C (by show 14 < lo; omega) (h4 k hk).1, C (by show 14 < lo; omega) (h4 k hk).2⟩, C (by show 9 < lo; omega) h5,
    ⟨C (by show 10 < lo; omega) h6, C (by show 10 < lo; omega) h7, C (by show 10 < lo; omega) h8⟩, ⟨a9, e9, x9, p9, C (by show 6 < lo; omega) q9, C p9 r9⟩, ⟨a10, e10, x10, p10, C (by show 7 < lo; omega) q10, C p10 r10⟩⟩
theorem Tabs.mod {lo g : Nat} {w w' : World} (h : Tabs lo w) (hg : lo ≤ g) (hw : lo ≤ w.heap.size) (hm : Mod (· = g) w w') : Tabs lo w' :=
  h.mono (Nat.le_refl _) (hm.below_of hw (fun k hk e => by omega))
/-- A decimal whose digits are being written over, from the right, by those of Q; i are written. -/
structure SH (C : Array Value) (P nd : Nat) (dp : Int) (neg tr : Bool) (Q n2 i : Nat) : Prop where
  size : C.size = 804
  byte : ∀ j, j < 800 → ∃ x : Nat, x < 256 ∧ C[j]? = some (.int .u8 (x : Nat))
  old : ∀ j, j + i < nd → C[j]? = some (.int .u8 (48 + dgt P (nd - 1 - j) : Nat))
  new : ∀ j, n2 ≤ j + i → j < n2 → j < 800 → C[j]? = some (.int .u8 (48 + dgt Q (n2 - 1 - j) : Nat))
  cnd : C[800]? = some (.int .i64 (nd : Nat))
  cdp : C[801]? = some (.int .i64 dp)
  cneg : C[802]? = some (.bool neg)
  ctr : C[803]? = some (.bool (tr || decide (Q % 10 ^ (min i (n2 - 800)) ≠ 0)))
theorem DC.start {C : Array Value} {P nd : Nat} {dp : Int} {neg tr : Bool} (h : DC C P nd dp neg tr) (Q n2 : Nat) : SH C P nd dp neg tr Q n2 0 :=
  ⟨h.size, h.byte, fun j hj => h.dig j (by omega), fun j h1 h2 _ => by omega, h.cnd, h.cdp, h.cneg, by rw [Nat.zero_min, Nat.pow_zero, Nat.mod_one]; simpa using h.ctr⟩
/-- A digit is written within the room. -/
theorem SH.put {C : Array Value} {P nd : Nat} {dp : Int} {neg tr : Bool} {Q n2 i : Nat} (h : SH C P nd dp neg tr Q n2 i) {j : Nat} (hj : j + i + 1 = n2) (h8 : j < 800) (hn : nd ≤ n2) :
    SH (C.setIfInBounds j (.int .u8 (48 + dgt Q i : Nat))) P nd dp neg tr Q n2 (i + 1) := by
  have hd := dgt_lt Q i
  refine ⟨by simpa using h.size, fun m hm => ?_, fun m hm => ?_, fun m h1 h2 h3 => ?_, ?_, ?_, ?_, ?_⟩
  · by_cases e : j = m
    · subst e; exact ⟨48 + dgt Q i, by omega, get_self _ _ _ (by rw [h.size]; omega)⟩
    · rw [get_set _ _ _ _ e]; exact h.byte m hm
  · rw [get_set _ _ _ _ (by omega)]; exact h.old m (by omega)
  · by_cases e : j = m
    · subst e
      rw [get_self _ _ _ (by rw [h.size]; omega), show n2 - 1 - j = i from by omega]
    · rw [get_set _ _ _ _ e]; exact h.new m (by omega) h2 h3
  · rw [get_set _ _ _ _ (by omega)]; exact h.cnd
  · rw [get_set _ _ _ _ (by omega)]; exact h.cdp
  · rw [get_set _ _ _ _ (by omega)]; exact h.cneg
  · rw [get_set _ _ _ _ (by omega), h.ctr]
    have e : min i (n2 - 800) = n2 - 800 := by omega
    have e2 : min (i + 1) (n2 - 800) = n2 - 800 := by omega
    rw [e, e2]
theorem mod_succ (Q i : Nat) : Q % 10 ^ (i + 1) = Q % 10 ^ i + 10 ^ i * dgt Q i := by
  rw [Nat.pow_succ, Nat.mod_mul]; rfl
/-- A digit beyond the room is nought. -/
theorem SH.skip {C : Array Value} {P nd : Nat} {dp : Int} {neg tr : Bool} {Q n2 i : Nat} (h : SH C P nd dp neg tr Q n2 i) {j : Nat} (hj : j + i + 1 = n2) (h8 : 800 ≤ j) (hz : dgt Q i = 0) : SH C P nd dp neg tr Q n2 (i + 1) := by
  refine ⟨h.size, h.byte, fun m hm => h.old m (by omega), fun m h1 h2 h3 => h.new m (by omega) h2 h3, h.cnd, h.cdp, h.cneg, ?_⟩
  rw [h.ctr, show min i (n2 - 800) = i from by omega, show min (i + 1) (n2 - 800) = i + 1 from by omega, mod_succ, hz, Nat.mul_zero, Nat.add_zero]
/-- A digit beyond the room is lost. -/
theorem SH.lose {C : Array Value} {P nd : Nat} {dp : Int} {neg tr : Bool} {Q n2 i : Nat} (h : SH C P nd dp neg tr Q n2 i) {j : Nat} (hj : j + i + 1 = n2) (h8 : 800 ≤ j) (hz : dgt Q i ≠ 0) :
    SH (C.setIfInBounds 803 (.bool true)) P nd dp neg tr Q n2 (i + 1) := by
  refine ⟨by simpa using h.size, fun m hm => ?_, fun m hm => ?_, fun m h1 h2 h3 => ?_, ?_, ?_, ?_, ?_⟩
  · rw [get_set _ _ _ _ (by omega)]; exact h.byte m hm
  · have : m < 800 ∨ 800 ≤ m := by omega
    by_cases e : 803 = m
    · subst e
      have := h.old 803 (by omega)
      rw [h.ctr] at this
      cases this
    · rw [get_set _ _ _ _ e]; exact h.old m (by omega)
  · rw [get_set _ _ _ _ (by omega)]; exact h.new m (by omega) h2 h3
  · rw [get_set _ _ _ _ (by omega)]; exact h.cnd
  · rw [get_set _ _ _ _ (by omega)]; exact h.cdp
  · rw [get_set _ _ _ _ (by omega)]; exact h.cneg
  · rw [get_self _ _ _ (by rw [h.size]; decide), show min (i + 1) (n2 - 800) = i + 1 from by omega, mod_succ]
    have hp := ten_pos i
    have : Q % 10 ^ i + 10 ^ i * dgt Q i ≠ 0 := by
      have := Nat.mul_ne_zero (Nat.pos_iff_ne_zero.1 hp) hz
      omega
    rw [decide_eq_true this, Bool.or_true]
theorem dgt_pow (Q e f : Nat) : dgt (Q / 10 ^ e) f = dgt Q (e + f) := by
  unfold dgt
  rw [Nat.div_div_eq_div_mul, Nat.pow_add]
theorem SH.finish {C C2 : Array Value} {P nd : Nat} {dp dp' : Int} {neg tr : Bool} {Q n2 : Nat} (h : SH C P nd dp neg tr Q n2 n2) (hQ : Q < 10 ^ n2) (hs : C2.size = C.size) (ho : ∀ j, j ≠ 800 → j ≠ 801 → C2[j]? = C[j]?)
    (h0 : C2[800]? = some (.int .i64 (min n2 800 : Nat))) (h1 : C2[801]? = some (.int .i64 dp')) : DC C2 (Q / 10 ^ (n2 - 800)) (min n2 800) dp' neg (tr || decide (Q % 10 ^ (n2 - 800) ≠ 0)) := by
  refine ⟨hs.trans h.size, fun j hj => ?_, fun j hj => ?_, h0, h1, ?_, ?_, Nat.min_le_right _ _, ?_⟩
  · rw [ho j (by omega) (by omega)]; exact h.byte j hj
  · rw [ho j (by omega) (by omega), h.new j (by omega) (by omega) (by omega), dgt_pow, show n2 - 800 + (min n2 800 - 1 - j) = n2 - 1 - j from by omega]
  · rw [ho _ (by decide) (by decide)]; exact h.cneg
  · rw [ho _ (by decide) (by decide), h.ctr, show min n2 (n2 - 800) = n2 - 800 from by omega]
  · rw [Nat.div_lt_iff_lt_mul (ten_pos _), ← Nat.pow_add, show min n2 800 + (n2 - 800) = n2 from by omega]; exact hQ
/-- What a shift to the left leaves: Q has n2 digits, the first 800 stay. -/
def NPost (g Q n2 : Nat) (dp : Int) (neg tr : Bool) (w : World) : Ending → World → Prop :=
  DPost g (trimN (Q / 10 ^ (n2 - 800)) (min n2 800)).1 (trimN (Q / 10 ^ (n2 - 800)) (min n2 800)).2 (trimDp (Q / 10 ^ (n2 - 800)) (min n2 800) dp) neg (tr || decide (Q % 10 ^ (n2 - 800) ≠ 0)) w
theorem cheat_size (k : Nat) : (⟨(chS k).toArray⟩ : ByteArray).size = (chS k).length := by simp [ByteArray.size]
theorem cheat_get (k j : Nat) (h : j < (⟨(chS k).toArray⟩ : ByteArray).size) : (⟨(chS k).toArray⟩ : ByteArray)[j] = (chS k).getD j 0 := by
  have h2 : j < (chS k).length := by rw [← cheat_size]; exact h
  have e : (chS k).getD j 0 = (chS k)[j] := by rw [List.getD_eq_getElem?_getD, List.getElem?_eq_getElem h2]; rfl
  rw [e]
  rfl
theorem Dc.drewN {w : World} {g P nd : Nat} {dp : Int} {neg tr : Bool} (h : Dc w g P nd dp neg tr) (q : Nat) : Dc (w.drewN q) g P nd dp neg tr := h
theorem sliceAt190 (B n : Nat) (h : n ≤ 800) (w : World) :
    (Instr.sliceAt 190 (.pointer (some ⟨B, 0, none⟩)) (some (.int .i64 0)) (some (.int .i64 (n : Int))) none).run Tryz.prog w = .ok (.slice (some ⟨B, 0, none⟩) n 800) w := by
  have h0 : (0 : Int) ≤ (n : Int) := by omega
  by_cases e : n = 0
  · subst e
    simp [Instr.sliceAt, Instr.sureAddr, run_underlying Tryz.underlying190, Instr.sliceBounds, Instr.sliceBound, asIntOf, Addr.add]
  · simp [Instr.sliceAt, Instr.sureAddr, run_underlying Tryz.underlying190, Instr.sliceBounds, Instr.sliceBound, asIntOf, Addr.add, h, h0]
set_option maxHeartbeats 4000000 in
theorem shl_any (lo g k P nd : Nat) (dp : Int) (neg tr : Bool) (w : World) (hT : Tabs lo w) (_hg : lo ≤ g) (hd : Dc w g P nd dp neg tr) (h1 : 1 ≤ nd) (hP : 10 ^ (nd - 1) ≤ P) (hk1 : 1 ≤ k) (hk : k ≤ 60) (hdp : -100000 ≤ dp ∧ dp ≤ 100000) :
    Calls Tryz.prog 142 #[.pointer (some ⟨g, 0, none⟩), .int .u64 (k : Nat)] w (NPost g (P * 2 ^ k) (nd + shlD k P nd) (dp + (shlD k P nd : Nat)) neg tr w) := by
  obtain ⟨b, o, c, hb, t0, t1⟩ := hT.cheats
  obtain ⟨t1, t2⟩ := t1 k hk
  have H := cheat_ok k hk1 hk
  have hplt := fun q => plt_any g P nd 800 dp neg tr (5 ^ k) ⟨(chS k).toArray⟩ (w.drewN q) (hd.drewN q) (by rw [cheat_size]; have := H.len; omega) (fun j h => by rw [cheat_get, cheat_size]; exact H.dig j (by rw [← cheat_size]; exact h)) (by rw [cheat_size]; exact H.lt) (.inr H.odd)
  rw [cheat_size, shl_plt H] at hplt
  obtain ⟨C, hrow, hc⟩ := hd
  have c0 : w.cell? ⟨g, 800, none⟩ = some (.int .i64 (nd : Nat)) := hrow.cell hc.cnd
  have hn := hc.le
  have hk0 : (k : Int) < 61 := by omega
  have hdd : shlD k P nd = if P * 2 ^ k < 10 ^ (nd + chD k - 1) then chD k - 1 else chD k := rfl
  have HDD := Lib.hid hdd
  have HH := Lib.hid H
  have hct := H.top
  have hcp := H.pos
  have HC := Lib.hid hc
  have HR := Lib.hid hrow
  obtain ⟨pb, hpb⟩ : ∃ pb, decide (P * 2 ^ k < 10 ^ (nd + chD k - 1)) = pb := ⟨_, rfl⟩
  rw [hpb] at hplt
  have HPB := Lib.hid hpb
  have hsl := sliceAt190 g nd hn
  clear hT H hc hrow hdd hpb
  go_enter Tryz.func142, Tryz.ntmps142
  go_wp2_with fail
  go_quiet ((go_at_call 149; exact Calls.quiet_of (hplt _)))
  clear hplt hsl
  obtain ⟨dl, hdl⟩ : ∃ dl, shlD k P nd = dl := ⟨_, rfl⟩
  have hdl2 : dl = if pb = true then chD k - 1 else chD k := by
    rw [← hdl, HDD.out, ← HPB.out]
    by_cases hx : P * 2 ^ k < 10 ^ (nd + chD k - 1)
    · rw [if_pos hx, if_pos (decide_eq_true hx)]
    · rw [if_neg hx, if_neg (by rw [decide_eq_false hx]; decide)]
  have hdl3 : dl ≤ 19 := by rw [hdl2]; split <;> omega
  go_upto_if 30 with (fail)
  go_cut [4] from 31 to 33 (fun v wx => wx = w.drewN nq ∧ v = .int .i64 (dl : Nat))
  case first =>
    have HDL := Lib.hid hdl2
    clear hdl hdl2
    cases pb with
    | true =>
      have hpos : ((chD k : Int) - 1) = (dl : Int) := by have := HDL.out; rw [if_pos rfl] at this; omega
      go_wp2_with fail
      go_meet
      exact ⟨rfl, rfl⟩
    | false =>
      have hpos : chD k = dl := by have := HDL.out; rw [if_neg (by decide)] at this; omega
      go_wp2_with fail
      go_meet
      exact ⟨rfl, by rw [hpos]⟩
  case rest =>
    obtain ⟨rfl, rfl⟩ := hcut
    obtain ⟨Q, hQ⟩ : ∃ Q, P * 2 ^ k = Q := ⟨_, rfl⟩
    obtain ⟨n2, hn2⟩ : ∃ n2, nd + dl = n2 := ⟨_, rfl⟩
    have hbd := shl_bounds HH.out HC.out.lt hP h1
    rw [hdl, hQ, hn2] at hbd
    have HBD := Lib.hid hbd
    have HQ := Lib.hid hQ
    have hn21 : n2 ≤ 900 := by omega
    have hn22 : nd ≤ n2 := by omega
    have HDL := Lib.hid hdl
    have hp60 : 2 ^ k ≤ 2 ^ 60 := Nat.pow_le_pow_right (by decide) hk
    obtain ⟨p, hp⟩ : ∃ p, 2 ^ k = p := ⟨_, rfl⟩
    have HP := Lib.hid hp
    rw [hp] at hp60
    clear hbd hQ hdl hdl2 hdl3 hP hp HPB HDD HH t0 t1 t2 hb hk0
    go_wp2_with fail
    go_loopg [5, 6, 7] nd (fun gh vr vw vn wr => ∃ i W m : Nat, ∃ z : Int, i + gh = nd ∧ vr = .int .i64 z ∧ z = (gh : Int) - 1 ∧ vw = .int .i64 (W : Nat) ∧ W + i = n2 ∧ vn = .int .u64 (m : Nat) ∧ m < p ∧ Hid (Q / 10 ^ i = P / 10 ^ i * p + m) ∧ Hid (Mod (· = g) w wr) ∧ ∃ C', Hid (Row wr g C' 192) ∧ Hid (SH C' P nd dp neg tr Q n2 i))
    case atStart =>
      refine ⟨0, n2, 0, (nd : Int) - 1, by omega, rfl, rfl, by subst hn2; rfl, by omega, rfl, ?_, Lib.hid (by rw [Nat.pow_zero, Nat.div_one, Nat.div_one, ← HQ.out, HP.out, Nat.add_zero]), Lib.hid ((Mod.refl _ _).drewN nq), C, HR, Lib.hid (HC.out.start Q n2)⟩
      rw [← HP.out]; exact Nat.two_pow_pos k
    case round =>
      obtain ⟨i, W, m, z, hi, rfl, hz, rfl, hW, rfl, hm, HE, HM, C', HR', HS⟩ := hrel
      cases gk with
      | zero =>
        obtain rfl : i = nd := by omega
        have hQm : Q / 10 ^ i = m := by rw [HE.out, Nat.div_eq_of_lt HC.out.lt, Nat.zero_mul, Nat.zero_add]
        have HQM := Lib.hid hQm
        have HW := Lib.hid hW
        have HN2 := Lib.hid hn2
        have hW9 : W ≤ 900 := by omega
        have hm60 : m < 2 ^ 60 := by omega
        have hz0 : ¬ (0 : Int) ≤ z := by omega
        clear hW hi hn2 hz hQm HE hm
        go_wp2_with fail
        go_loopg [6, 7] W (fun gh vw vn wr => ∃ e m : Nat, vw = .int .i64 (gh : Nat) ∧ Hid (gh + e = n2) ∧ gh ≤ 900 ∧ vn = .int .u64 (m : Nat) ∧ m < 2 ^ 60 ∧ Hid (Q / 10 ^ e = m) ∧ Hid (Mod (· = g) w wr) ∧ ∃ C', Hid (Row wr g C' 192) ∧ Hid (SH C' P i dp neg tr Q n2 e))
        case atStart => exact ⟨i, m, rfl, HW, hW9, rfl, hm60, HQM, HM, C', HR', HS⟩
        case round =>
          clear HM HR' HS C' HW HQM hm60 hW9 hz0
          obtain ⟨e, m, rfl, HW, hg9, rfl, hm60, HQM, HM, C', HR', HS⟩ := hrel
          by_cases hm0 : m = 0
          · subst hm0
            have hlt : Q < 10 ^ e := by
              have h := HQM.out
              rw [Nat.div_eq_zero_iff] at h
              have := ten_pos e
              omega
            have hge : n2 - 1 < e := by
              rcases Nat.lt_or_ge (n2 - 1) e with h | h
              · exact h
              · have := Nat.pow_le_pow_right (show 0 < 10 by decide) h
                have := HBD.out.2
                omega
            obtain rfl : gk = 0 := by have := HW.out; omega
            obtain rfl : e = n2 := by have := HW.out; omega
            have c1 := HR'.out.cell HS.out.cnd
            have c2 := HR'.out.cell HS.out.cdp
            have cf := HR'.out.frozen
            have HG := Lib.hid hge
            have hsum : (i : Int) + (dl : Int) = (e : Int) := by have := HN2.out; omega
            clear hlt hge
            by_cases h8 : 800 ≤ e
            · have h8' : (800 : Int) ≤ (e : Int) := by omega
              go_wp2_with fail
              have hD : Dc (((wr.setCell ⟨g, 800, none⟩ (.int .i64 (e : Nat))).setCell ⟨g, 800, none⟩ (.int .i64 800)).setCell ⟨g, 801, none⟩ (.int .i64 (dp + (dl : Int)))) g (Q / 10 ^ (e - 800)) (min e 800) (dp + (dl : Int)) neg (tr || decide (Q % 10 ^ (e - 800) ≠ 0)) := by
                refine ⟨_, ((HR'.out.set 800 _).set 800 _).set 801 _, HS.out.finish HBD.out.1 (by simp) (fun j h1 h2 => ?_) ?_ ?_⟩
                · rw [get_set _ _ _ _ (by omega), get_set _ _ _ _ (by omega), get_set _ _ _ _ (by omega)]
                · rw [get_set _ _ _ _ (by omega), get_self _ _ _ (by rw [Array.size_setIfInBounds, HS.out.size]; decide), Nat.min_eq_right h8]; rfl
                · rw [get_self _ _ _ (by rw [Array.size_setIfInBounds, Array.size_setIfInBounds, HS.out.size]; decide)]
              refine (trim_any g _ _ _ _ _ _ hD).mono ?_
              rintro _ w2 ⟨rfl, hm2, hd2⟩
              go_wp2_with fail
              go_end0
              rw [HQ.out, HDL.out, HN2.out]
              exact ⟨rfl, (set1_mod (set1_mod (set1_mod HM.out _ _) _ _) _ _).trans hm2 (fun _ _ h => h), hd2⟩
            · have h8' : ¬ (800 : Int) ≤ (e : Int) := by omega
              go_wp2_with fail
              have hD : Dc ((wr.setCell ⟨g, 800, none⟩ (.int .i64 (e : Nat))).setCell ⟨g, 801, none⟩ (.int .i64 (dp + (dl : Int)))) g (Q / 10 ^ (e - 800)) (min e 800) (dp + (dl : Int)) neg (tr || decide (Q % 10 ^ (e - 800) ≠ 0)) := by
                refine ⟨_, (HR'.out.set 800 _).set 801 _, HS.out.finish HBD.out.1 (by simp) (fun j h1 h2 => ?_) ?_ ?_⟩
                · rw [get_set _ _ _ _ (by omega), get_set _ _ _ _ (by omega)]
                · rw [get_set _ _ _ _ (by omega), get_self _ _ _ (by rw [HS.out.size]; decide), Nat.min_eq_left (by omega)]
                · rw [get_self _ _ _ (by rw [Array.size_setIfInBounds, HS.out.size]; decide)]
              refine (trim_any g _ _ _ _ _ _ hD).mono ?_
              rintro _ w2 ⟨rfl, hm2, hd2⟩
              go_wp2_with fail
              go_end0
              rw [HQ.out, HDL.out, HN2.out]
              exact ⟨rfl, (set1_mod (set1_mod HM.out _ _) _ _).trans hm2 (fun _ _ h => h), hd2⟩
          · obtain ⟨n, rfl⟩ : ∃ n, gk = n + 1 := by
              refine ⟨gk - 1, ?_⟩
              rcases Nat.eq_zero_or_pos gk with h | h
              · have h1 := HW.out
                obtain rfl : e = n2 := by omega
                have := HQM.out
                rw [Nat.div_eq_of_lt HBD.out.1] at this
                omega
              · omega
            obtain ⟨q, hq⟩ : ∃ q, m / 10 = q := ⟨_, rfl⟩
            obtain ⟨d, hd⟩ : ∃ d, m % 10 = d := ⟨_, rfl⟩
            have hm1 : (0 : Int) < (m : Int) := by omega
            have e3 : IntKind.u64.wrap ((m : Int) / 10) = (q : Int) := by
              rw [show (m : Int) / 10 = (q : Int) from by omega]
              exact IntWalk.u64_in _ (by omega)
            have e4 : IntKind.u64.wrap (10 * (q : Int)) = 10 * (q : Int) := IntWalk.u64_in _ (by omega)
            have e5 : IntKind.u64.wrap ((m : Int) - 10 * (q : Int)) = (d : Int) := by
              rw [show (m : Int) - 10 * (q : Int) = (d : Int) from by omega]
              exact IntWalk.u64_in _ (by omega)
            have HQT : Hid (Q / 10 ^ (e + 1) = q) := Lib.hid (by rw [Nat.pow_succ, ← Nat.div_div_eq_div_mul, HQM.out, hq])
            have HDT : Hid (dgt Q e = d) := Lib.hid (by unfold dgt; rw [HQM.out, hd])
            have hqp : q < 2 ^ 60 := by omega
            have hd10 : d < 10 := by omega
            have cf := HR'.out.frozen
            clear hq hd hm0
            by_cases h8 : n < 800
            · have h8' : (n : Int) < 800 := by omega
              obtain ⟨y, _, hy⟩ := HS.out.byte n h8
              have c2 := HR'.out.cell hy
              clear hy
              go_wp2_with fail
              go_roundg n
              case measure => omega
              case rel =>
                have hput := HS.out.put (j := n) (by have := HW.out; omega) h8 hn22
                rw [HDT.out, show ((48 + d : Nat) : Int) = (d : Int) + 48 from by omega] at hput
                exact ⟨e + 1, q, rfl, Lib.hid (by have := HW.out; omega), by omega, rfl, hqp, HQT, Lib.hid (set1_mod HM.out _ _), _, Lib.hid (HR'.out.set n _), Lib.hid hput⟩
            · have h8' : ¬ (n : Int) < 800 := by omega
              by_cases hd0 : d = 0
              · have hdb : ((d : Int) != 0) = false := by rw [bne_eq_false_iff_eq]; omega
                go_wp2_with fail
                go_roundg n
                case measure => omega
                case rel =>
                  exact ⟨e + 1, q, rfl, Lib.hid (by have := HW.out; omega), by omega, rfl, hqp, HQT, HM, _, HR', Lib.hid (HS.out.skip (j := n) (by have := HW.out; omega) (by omega) (by rw [HDT.out, hd0]))⟩
              · have hdb : ((d : Int) != 0) = true := by rw [bne_iff_ne]; omega
                have c2 := HR'.out.cell HS.out.ctr
                go_wp2_with fail
                go_roundg n
                case measure => omega
                case rel =>
                  exact ⟨e + 1, q, rfl, Lib.hid (by have := HW.out; omega), by omega, rfl, hqp, HQT, Lib.hid (set1_mod HM.out _ _), _, Lib.hid (HR'.out.set 803 _), Lib.hid (HS.out.lose (j := n) (by have := HW.out; omega) (by omega) (by rw [HDT.out]; exact hd0))⟩
      | succ n =>
        obtain rfl : z = (n : Int) := by omega
        obtain ⟨v, rfl⟩ : ∃ v, W = v + 1 := ⟨W - 1, by omega⟩
        have hold := HS.out.old n (by omega)
        have c1 := HR'.out.cell hold
        rw [show nd - 1 - n = i from by omega] at c1
        have hd9 := dgt_lt P i
        obtain ⟨a, ha⟩ : ∃ a, dgt P i = a := ⟨_, rfl⟩
        rw [ha] at c1 hd9
        have cf := HR'.out.frozen
        have hn8 : (n : Int) < 800 := by omega
        have hn0 : (0 : Int) ≤ (n : Int) := by omega
        obtain ⟨X, hX⟩ : ∃ X, a * p = X := ⟨_, rfl⟩
        obtain ⟨T, hT⟩ : ∃ T, m + X = T := ⟨_, rfl⟩
        have hX9 : X ≤ 9 * p := by rw [← hX]; exact Nat.mul_le_mul_right _ (by omega)
        have hT10 : T < 10 * p := by omega
        have HQE : Hid (Q / 10 ^ i = 10 * (P / 10 ^ (i + 1) * p) + T) := Lib.hid (by
          have hh := HE.out
          rw [div_split P i, ha, Nat.add_mul, hX, Nat.mul_assoc] at hh
          rw [hh]; omega)
        have hdT : dgt Q i = T % 10 := by unfold dgt; rw [HQE.out]; omega
        have hqT : Q / 10 ^ (i + 1) = P / 10 ^ (i + 1) * p + T / 10 := by
          rw [Nat.pow_succ, ← Nat.div_div_eq_div_mul, HQE.out, Nat.pow_succ]; omega
        obtain ⟨q, hq⟩ : ∃ q, T / 10 = q := ⟨_, rfl⟩
        obtain ⟨d, hd⟩ : ∃ d, T % 10 = d := ⟨_, rfl⟩
        rw [hq] at hqT
        rw [hd] at hdT
        have e1 : IntKind.u64.wrap ((48 + (a : Int) - 48) * 2 ^ k) = (X : Int) := by
          rw [show (48 + (a : Int) - 48) * 2 ^ k = (X : Int) from by
            rw [← hX, ← HP.out, Int.natCast_mul, Int.natCast_pow, show (48 + (a : Int) - 48) = (a : Int) from by omega]
            rfl]
          exact IntWalk.u64_in _ (by omega)
        have e2 : IntKind.u64.wrap ((m : Int) + (X : Int)) = (T : Int) := by
          rw [← hT]; exact IntWalk.u64_in _ (by omega)
        have e3 : IntKind.u64.wrap ((T : Int) / 10) = (q : Int) := by
          rw [show (T : Int) / 10 = (q : Int) from by omega]
          exact IntWalk.u64_in _ (by omega)
        have e4 : IntKind.u64.wrap (10 * (q : Int)) = 10 * (q : Int) := IntWalk.u64_in _ (by omega)
        have e5 : IntKind.u64.wrap ((T : Int) - 10 * (q : Int)) = (d : Int) := by
          rw [show (T : Int) - 10 * (q : Int) = (d : Int) from by omega]
          exact IntWalk.u64_in _ (by omega)
        have hqp : q < p := by omega
        have hd10 : d < 10 := by omega
        have HQT := Lib.hid hqT
        have HDT := Lib.hid hdT
        have HW := Lib.hid hW
        have HI := Lib.hid hi
        have HN2 := Lib.hid hn2
        have hv9 : v ≤ 900 := by omega
        clear hold hW hi hn2 hz ha hX hT hX9 hT10 hdT hqT hq hd
        by_cases h8 : v < 800
        · have h8' : (v : Int) < 800 := by omega
          obtain ⟨y, _, hy⟩ := HS.out.byte v h8
          have c2 := HR'.out.cell hy
          clear hy
          go_wp2_with fail
          go_roundg n
          case measure => omega
          case rel =>
            have hput := HS.out.put (j := v) (by have := HW.out; omega) h8 hn22
            rw [HDT.out, show ((48 + d : Nat) : Int) = (d : Int) + 48 from by omega] at hput
            exact ⟨i + 1, v, q, (n : Int) - 1, by have := HI.out; omega, rfl, rfl, rfl, by have := HW.out; omega, rfl, hqp, HQT, Lib.hid (set1_mod HM.out _ _), _, Lib.hid (HR'.out.set v _), Lib.hid hput⟩
        · have h8' : ¬ (v : Int) < 800 := by omega
          by_cases hd0 : d = 0
          · have hdb : ((d : Int) != 0) = false := by rw [bne_eq_false_iff_eq]; omega
            go_wp2_with fail
            go_roundg n
            case measure => omega
            case rel =>
              exact ⟨i + 1, v, q, (n : Int) - 1, by have := HI.out; omega, rfl, rfl, rfl, by have := HW.out; omega, rfl, hqp, HQT, HM, _, HR', Lib.hid (HS.out.skip (j := v) (by have := HW.out; omega) (by omega) (by rw [HDT.out, hd0]))⟩
          · have hdb : ((d : Int) != 0) = true := by rw [bne_iff_ne]; omega
            have c2 := HR'.out.cell HS.out.ctr
            go_wp2_with fail
            go_roundg n
            case measure => omega
            case rel =>
              exact ⟨i + 1, v, q, (n : Int) - 1, by have := HI.out; omega, rfl, rfl, rfl, by have := HW.out; omega, rfl, hqp, HQT, Lib.hid (set1_mod HM.out _ _), _, Lib.hid (HR'.out.set 803 _), Lib.hid (HS.out.lose (j := v) (by have := HW.out; omega) (by omega) (by rw [HDT.out]; exact hd0))⟩
end Go.Proofs.YtadpeebcombjnaaGreatDoor
