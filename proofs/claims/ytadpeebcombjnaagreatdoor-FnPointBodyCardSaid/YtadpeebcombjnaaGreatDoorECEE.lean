/- internal/strconv's parseFloat64. -/
import Derived.Test.YtadpeebcombjnaaGreatDoorEAEB
namespace Go.Proofs.YtadpeebcombjnaaGreatDoor
open Go Go.Proofs Go.RowKit Go.Lib
set_option maxRecDepth 100000
theorem aux_le : ∀ (f x : Nat), Lib.bitLenAux f x ≤ f ∧ (x < 2 ^ f → x < 2 ^ Lib.bitLenAux f x) := by
  intro f
  induction f with
  | zero => intro x; exact ⟨Nat.le_refl _, fun h => h⟩
  | succ f ih =>
    intro x
    obtain ⟨h1, h2⟩ := ih (x / 2)
    rw [Lib.bitLenAux]
    split
    · rename_i h0
      refine ⟨Nat.zero_le _, fun _ => ?_⟩
      first
        | (have : x = 0 := by simpa using h0
           rw [this]; decide)
        | omega
    · refine ⟨by omega, fun h => ?_⟩
      have h3 := h2 (by rw [Nat.pow_succ] at h; omega)
      rw [Nat.pow_add, Nat.pow_one]
      omega
theorem bl_le (x : Nat) : Lib.bitLen x ≤ 64 := (aux_le 64 x).1
theorem bl_lt {x : Nat} (h : x < 2 ^ 64) : x < 2 ^ Lib.bitLen x := (aux_le 64 x).2 h
def pfE (d : Nat) (p : Int) : Int := min 1074 (53 - (Lib.bitLen d : Int) - lg p)
def pfS (d : Nat) (p : Int) : Int := -(pfE d p - (64 - (Lib.bitLen d : Int)) + lg p + 3)
def pfU (d : Nat) (p : Int) : Nat := usc (d * 2 ^ (64 - Lib.bitLen d)) (tabH (p + 348).toNat) (tabL (p + 348).toNat) (pfS d p).toNat
/-- d·10^p: the word without its sign, and whether it is out of range. -/
def pf64 (d : Nat) (p : Int) : Nat × Bool :=
  if 64 ≤ pfS d p then (0, false) else
  if 36028797018963966 ≤ pfU d p then pk (rnd (pfU d p / 2 ||| pfU d p % 2)) (-(pfE d p - 1)) else pk (rnd (pfU d p ||| pfU d p % 2)) (-(pfE d p))
theorem lg_bound {p : Int} (hp : -345 ≤ p ∧ p ≤ 310) : -1200 ≤ lg p ∧ lg p ≤ 1100 := by unfold lg; omega
theorem pfS_low {d : Nat} {p : Int} : 8 ≤ pfS d p := by
  unfold pfS pfE
  have := bl_le d
  have h : min (1074 : Int) (53 - (Lib.bitLen d : Int) - lg p) ≤ 53 - (Lib.bitLen d : Int) - lg p := Int.min_le_right _ _
  omega
theorem or_lt' {a b n : Nat} (ha : a < 2 ^ n) (hb : b < 2 ^ n) : a ||| b < 2 ^ n := Nat.or_lt_two_pow ha hb
theorem usc_lt {x H L s : Nat} (hx : x < 2 ^ 64) (hH : H < 2 ^ 64) (h8 : 8 ≤ s) : usc x H L s < 2 ^ 56 := by
  have hs : ∀ v, v < 2 ^ 64 → v / 2 ^ s < 2 ^ 56 := fun v hv => by
    rw [Nat.div_lt_iff_lt_mul (Nat.two_pow_pos s)]
    have : 2 ^ 8 ≤ 2 ^ s := Nat.pow_le_pow_right (by decide) h8
    exact Nat.lt_of_lt_of_le hv (by rw [show (2 : Nat) ^ 64 = 2 ^ 56 * 2 ^ 8 from by decide]; exact Nat.mul_le_mul_left _ this)
  have hhi : x * H / 2 ^ 64 < 2 ^ 64 := by
    rw [Nat.div_lt_iff_lt_mul (by decide)]
    exact Nat.mul_lt_mul_of_lt_of_le hx (Nat.le_of_lt hH) (by decide)
  have hb : ∀ b : Bool, b.toNat < 2 ^ 56 := fun b => by cases b <;> decide
  unfold usc
  split
  · exact or_lt' (hs _ hhi) (by decide)
  · exact or_lt' (hs _ (Nat.mod_lt _ (by decide))) (hb _)
theorem rnd_le {u : Nat} (h : u < 2 ^ 55) : rnd u ≤ 9007199254740992 := by unfold rnd; omega
theorem pfU_lt {d : Nat} {p : Int} (hd : d < 2 ^ 64) : pfU d p < 2 ^ 56 := by
  unfold pfU
  refine usc_lt ?_ (tab_lt _).1 (by have := pfS_low (d := d) (p := p); omega)
  have h1 := bl_lt hd
  have h2 := bl_le d
  calc d * 2 ^ (64 - Lib.bitLen d) < 2 ^ Lib.bitLen d * 2 ^ (64 - Lib.bitLen d) := Nat.mul_lt_mul_of_pos_right h1 (Nat.two_pow_pos _)
    _ = 2 ^ 64 := by rw [← Nat.pow_add, show Lib.bitLen d + (64 - Lib.bitLen d) = 64 from by omega]
theorem pfE_bound {d : Nat} {p : Int} (hp : -345 ≤ p ∧ p ≤ 310) : -1200 ≤ pfE d p ∧ pfE d p ≤ 1074 := by
  unfold pfE
  have := bl_le d
  have := lg_bound hp
  omega
theorem pf64_low {d : Nat} {p : Int} (hd : d < 2 ^ 64) (hp : -345 ≤ p ∧ p ≤ 310) : (pf64 d p).1 < 9223372036854775808 ∧ ((pf64 d p).2 = false → finW (pf64 d p).1 = true) := by
  unfold pf64
  have hu := pfU_lt (p := p) hd
  have he := pfE_bound (d := d) hp
  split
  · exact ⟨by decide, fun _ => by decide⟩
  · split
    · exact pk_low (rnd_le (or_lt' (by omega) (by omega))) (by omega)
    · exact pk_low (rnd_le (or_lt' (by omega) (by omega))) (by omega)
set_option maxHeartbeats 4000000 in
theorem pf64_any {lo : Nat} {w : World} (hT : Tabs lo w) (hlo : lo ≤ w.heap.size) (d : Nat) (hd : d < 2 ^ 64) (p : Int) (hp : -345 ≤ p ∧ p ≤ 310) (sg : Nat) (hs : sg = 0 ∨ sg = 9223372036854775808) :
    Calls Tryz.prog 122 #[.int .u64 (d : Nat), .int .i64 p, .int .u64 (sg : Nat)] w fun en w' => en = .returned (.tuple #[.float .f64 ((pf64 d p).1 + sg), ErrV (pf64 d p).2]) ∧ Below w.heap.size w w' := by
  obtain ⟨k, hk⟩ : ∃ k : Nat, p + 348 = (k : Int) := ⟨(p + 348).toNat, by omega⟩
  obtain rfl : p = (k : Int) - 348 := by omega
  have hlen := Tryz.bits_Len64 (d : Int) w (by omega) (by omega)
  rw [Int.toNat_natCast] at hlen
  have hlg := lg_any ((k : Int) - 348) (by omega) w
  have hlb := lg_bound hp
  have heb := pfE_bound (d := d) hp
  have hsl := pfS_low (d := d) (p := (k : Int) - 348)
  have hbl := bl_le d
  have hblt := bl_lt hd
  have hU := pfU_lt (p := (k : Int) - 348) hd
  have hUd : pfU d ((k : Int) - 348) = usc (d * 2 ^ (64 - Lib.bitLen d)) (tabH k) (tabL k) (pfS d ((k : Int) - 348)).toNat := by
    unfold pfU
    rw [show ((k : Int) - 348 + 348).toNat = k from by omega]
  have hE : pfE d ((k : Int) - 348) = min 1074 (53 - (Lib.bitLen d : Int) - lg ((k : Int) - 348)) := rfl
  have hS : pfS d ((k : Int) - 348) = -(pfE d ((k : Int) - 348) - (64 - (Lib.bitLen d : Int)) + lg ((k : Int) - 348) + 3) := rfl
  have hR : pf64 d ((k : Int) - 348) = if 64 ≤ pfS d ((k : Int) - 348) then (0, false) else
    if 36028797018963966 ≤ pfU d ((k : Int) - 348) then pk (rnd (pfU d ((k : Int) - 348) / 2 ||| pfU d ((k : Int) - 348) % 2)) (-(pfE d ((k : Int) - 348) - 1)) else pk (rnd (pfU d ((k : Int) - 348) ||| pfU d ((k : Int) - 348) % 2)) (-(pfE d ((k : Int) - 348))) := rfl
  generalize pf64 d ((k : Int) - 348) = R at *
  generalize pfU d ((k : Int) - 348) = U at *
  generalize pfS d ((k : Int) - 348) = S at *
  generalize pfE d ((k : Int) - 348) = E at *
  generalize lg ((k : Int) - 348) = l at *
  generalize Lib.bitLen d = b at *
  have hE' : min (1074 : Int) (53 - (b : Int) - l) = E := hE.symm
  have HR := Lib.hid hR
  have HT := Lib.hid hT
  have h2 := from_call2
  obtain ⟨g, hg⟩ : ∃ g, w.heap.size = g := ⟨_, rfl⟩
  have hrow : Row (w.alloc (.cells #[.int .u64 0, .int .u64 0, .int .i64 0] 209)) g #[.int .u64 0, .int .u64 0, .int .i64 0] 209 := by rw [← hg]; exact Row.new w _ 209
  have hba : Below g w (w.alloc (.cells #[.int .u64 0, .int .u64 0, .int .i64 0] 209)) := by rw [← hg]; exact ((Mod.refl (fun _ => False) w).alloc _).below (fun _ _ h => h)
  have hpre := prescale_any (hT.mono (by omega) hba) (by omega) hrow k (by omega) (E - (64 - (b : Int))) l (by omega) (by omega)
  have HBA := Lib.hid hba
  have HSZ : Hid ((w.alloc (.cells #[.int .u64 0, .int .u64 0, .int .i64 0] 209)).heap.size = g + 1) := Lib.hid (by simp [hg])
  rw [hg] at hlo ⊢
  have HG := Lib.hid hg
  have HS := Lib.hid hS
  have HUD := Lib.hid hUd
  have hS8 : S ≤ 3000 := by omega
  clear hE hR hT hrow hba hg hS hUd hk
  go_enter Tryz.func122, Tryz.ntmps122
  go_wp2_with fail
  refine hlen.mono ?_
  rintro _ wq ⟨rfl, hwq⟩
  rw [hwq]
  clear hwq hlen
  go_wp2_with fail
  refine hlg.mono ?_
  rintro _ wq ⟨rfl, hwq⟩
  rw [hwq]
  clear hwq hlg
  go_wp2_with fail
  rw [HG.out]
  refine hpre.mono ?_
  rintro _ w2 ⟨rfl, hm2, hr2⟩
  have hbw : Below g w w2 := HBA.out.trans (hm2.below_of (N := g) (by rw [HSZ.out]; omega) (fun k hk e => by omega))
  have HBW := Lib.hid hbw
  rw [← HS.out] at hr2
  have c2 := hr2.cell (j := 2) rfl
  have hc2 : w2.cell? ⟨g, 2, none⟩ = some (.int .i64 S) := c2
  clear c2 hbw hm2 hpre
  by_cases h64 : 64 ≤ S
  · have HR2 : Hid (R = (0, false)) := Lib.hid (HR.out.trans (if_pos h64))
    have ho : bits BinOp.or IntKind.u64 (sg : Int) 0 = (sg : Int) := by
      have h := or_low sg 0 (by decide) hs
      have e : ((0 : Nat) : Int) = 0 := rfl
      rw [e, Nat.add_zero] at h
      exact h
    clear hr2
    go_wp2_with fail
    go_ret2
    refine ⟨?_, HBW.out⟩
    rw [HR2.out, Nat.zero_add]
    rfl
  · obtain ⟨t, ht⟩ : ∃ t : Nat, (64 : Int) - (b : Int) = (t : Int) := ⟨64 - b, by omega⟩
    obtain ⟨s8, hs8⟩ : ∃ s8 : Nat, S = (s8 : Int) := ⟨S.toNat, by omega⟩
    obtain rfl : t = 64 - b := by omega
    have hX64 : d * 2 ^ (64 - b) < 2 ^ 64 := by
      calc d * 2 ^ (64 - b) < 2 ^ b * 2 ^ (64 - b) := Nat.mul_lt_mul_of_pos_right hblt (Nat.two_pow_pos _)
        _ = 2 ^ 64 := by rw [← Nat.pow_add, show b + (64 - b) = 64 from by omega]
    subst hs8
    have hus := uscale_any (w := w2) (x := d * 2 ^ (64 - b)) (s := s8) hr2 hX64 (tab_lt k).1 (tab_lt k).2 (by omega)
    have hUd2 := HUD.out
    rw [Int.toNat_natCast] at hUd2
    rw [← hUd2] at hus
    obtain ⟨t, htt⟩ : ∃ t, 64 - b = t := ⟨_, rfl⟩
    obtain ⟨X, hX⟩ : ∃ X, d * 2 ^ t = X := ⟨_, rfl⟩
    rw [htt] at ht hus
    rw [hX] at hus
    have hXw : IntKind.u64.wrap ((d : Int) * 2 ^ t) = (X : Int) := by
      rw [show (d : Int) * 2 ^ t = (X : Int) from by rw [← hX, Int.natCast_mul, Int.natCast_pow]; rfl]
      exact IntWalk.u64_in _ (by rw [htt, hX] at hX64; omega)
    have ht64 : t ≤ 64 := by omega
    have h64' : ¬ (64 : Int) ≤ (s8 : Int) := h64
    have HRX : Hid (R = if 36028797018963966 ≤ U then pk (rnd (U / 2 ||| U % 2)) (-(E - 1)) else pk (rnd (U ||| U % 2)) (-E)) := Lib.hid (HR.out.trans (if_neg (by omega)))
    clear hUd2 hX htt hX64 hblt h64 HUD
    go_wp2_with fail
    refine hus.mono ?_
    rintro _ w3 ⟨rfl, nq, rfl⟩
    clear hus hXw ht
    have hbW : Below g w (w2.drewN nq) := ⟨HBW.out.os, HBW.out.tape, HBW.out.output, HBW.out.size, HBW.out.block⟩
    have HBW2 := Lib.hid hbW
    clear hbW hc2 hr2
    generalize w2.drewN nq = w3 at *
    have hun := unmin_any w3
    by_cases hbig : 36028797018963966 ≤ U
    · have hbb : decide ((36028797018963966 : Int) ≤ (U : Int)) = true := decide_eq_true (by omega)
      have HR3 : Hid (R = pk (rnd (U / 2 ||| U % 2)) (-(E - 1))) := Lib.hid (by rw [HRX.out, if_pos hbig])
      have hb2 := Tryz.internal_strconv_bool2_int true w3
      obtain ⟨a, ha⟩ : ∃ a, U / 2 = a := ⟨_, rfl⟩
      obtain ⟨c, hc⟩ : ∃ c, U % 2 = c := ⟨_, rfl⟩
      obtain ⟨v, hv⟩ : ∃ v, a ||| c = v := ⟨_, rfl⟩
      rw [ha, hc, hv] at HR3
      have f1 : (U : Int) / 2 = (a : Int) := by omega
      have f2 : bits BinOp.and IntKind.u64 (U : Int) 1 = (c : Int) := by
        have h := u64_and_nat U 1 (by omega) (by decide)
        have e : ((1 : Nat) : Int) = 1 := rfl
        rw [e] at h
        rw [h, nat_mask1, hc]
      have f3 : bits BinOp.or IntKind.u64 (a : Int) (c : Int) = (v : Int) := by rw [u64_or_nat a c (by omega) (by omega), hv]
      have hv55 : v < 2 ^ 55 := by rw [← hv]; exact or_lt' (by omega) (by omega)
      have hrn := rndu_any v (by omega) w3
      have hrl := rnd_le hv55
      obtain ⟨m, hm⟩ : ∃ m, rnd v = m := ⟨_, rfl⟩
      rw [hm] at hrn hrl HR3
      have f4 := or_low sg m (by omega) hs
      have hpk := pack_any m sg (-(E - 1)) hrl hs (by omega) w3
      rw [← HR3.out] at hpk
      obtain ⟨M, hM⟩ : ∃ M, sg + m = M := ⟨_, rfl⟩
      rw [hM] at f4 hpk
      have hE2 : -(E - 1) = -(E - 1) ∨ True := .inr trivial
      clear ha hc hv hv55 hm hM hrl hE2 hbig
      go_wp2_with fail
      refine hun.mono ?_
      rintro _ wq ⟨rfl, hwq⟩
      rw [hwq]
      clear hwq hun
      go_wp2_with fail
      refine hb2.mono ?_
      rintro _ wq ⟨rfl, hwq⟩
      rw [hwq]
      clear hwq hb2
      go_wp2_with fail
      refine hrn.mono ?_
      rintro _ wq ⟨rfl, hwq⟩
      rw [hwq]
      clear hwq hrn
      go_wp2_with fail
      refine hpk.mono ?_
      rintro _ wq ⟨rfl, hwq⟩
      rw [hwq]
      clear hwq hpk
      go_wp2_with fail
      go_ret2
      exact ⟨rfl, HBW2.out⟩
    · have hbb : decide ((36028797018963966 : Int) ≤ (U : Int)) = false := decide_eq_false (by omega)
      have HR3 : Hid (R = pk (rnd (U ||| U % 2)) (-E)) := Lib.hid (by rw [HRX.out, if_neg hbig])
      have hb2 := Tryz.internal_strconv_bool2_int false w3
      obtain ⟨c, hc⟩ : ∃ c, U % 2 = c := ⟨_, rfl⟩
      obtain ⟨v, hv⟩ : ∃ v, U ||| c = v := ⟨_, rfl⟩
      rw [hc] at HR3
      rw [hv] at HR3
      have f2 : bits BinOp.and IntKind.u64 (U : Int) 1 = (c : Int) := by
        have h := u64_and_nat U 1 (by omega) (by decide)
        have e : ((1 : Nat) : Int) = 1 := rfl
        rw [e] at h
        rw [h, nat_mask1, hc]
      have f3 : bits BinOp.or IntKind.u64 (U : Int) (c : Int) = (v : Int) := by rw [u64_or_nat U c (by omega) (by omega), hv]
      have hv55 : v < 2 ^ 55 := by rw [← hv]; exact or_lt' (by omega) (by omega)
      have hrn := rndu_any v (by omega) w3
      have hrl := rnd_le hv55
      obtain ⟨m, hm⟩ : ∃ m, rnd v = m := ⟨_, rfl⟩
      rw [hm] at hrn hrl HR3
      have f4 := or_low sg m (by omega) hs
      have hpk := pack_any m sg (-E) hrl hs (by omega) w3
      rw [← HR3.out] at hpk
      obtain ⟨M, hM⟩ : ∃ M, sg + m = M := ⟨_, rfl⟩
      rw [hM] at f4 hpk
      have hE2 : -E = -E ∨ True := .inr trivial
      clear hc hv hv55 hm hM hrl hE2 hbig
      go_wp2_with fail
      refine hun.mono ?_
      rintro _ wq ⟨rfl, hwq⟩
      rw [hwq]
      clear hwq hun
      go_wp2_with fail
      refine hb2.mono ?_
      rintro _ wq ⟨rfl, hwq⟩
      rw [hwq]
      clear hwq hb2
      go_wp2_with fail
      refine hrn.mono ?_
      rintro _ wq ⟨rfl, hwq⟩
      rw [hwq]
      clear hwq hrn
      go_wp2_with fail
      refine hpk.mono ?_
      rintro _ wq ⟨rfl, hwq⟩
      rw [hwq]
      clear hwq hpk
      go_wp2_with fail
      go_ret2
      exact ⟨rfl, HBW2.out⟩
end Go.Proofs.YtadpeebcombjnaaGreatDoor
namespace Go.Proofs.YtadpeebcombjnaaGreatDoor
open Go Go.Proofs Go.RowKit Go.Lib
set_option maxRecDepth 100000
theorem nearest_sign (mag : Nat) (place : Int) : Ieee.double.nearest true mag place = Ieee.double.nearest false mag place + 9223372036854775808 := by
  have e1 : ∀ r, Ieee.double.word true r = 9223372036854775808 + r := fun r => rfl
  have e2 : ∀ r, Ieee.double.word false r = r := fun r => rfl
  have e3 : ∀ n d, Ieee.Toward.even.cut true n d = Ieee.Toward.even.cut false n d := fun n d => rfl
  unfold Ieee.Format.nearest
  split
  · rw [e1, e2, Nat.add_comm]
  · dsimp only
    rw [e1, e2, e3, Nat.add_comm]
theorem cut_le (neg : Bool) (n d : Nat) : Ieee.Toward.even.cut neg n d ≤ n / 2 ^ min d (n.log2 + 2) + 1 := by
  unfold Ieee.Toward.cut
  dsimp only
  rw [Nat.one_shiftLeft]
  have hb : ∀ b : Bool, b.toNat ≤ 1 := by decide
  exact Nat.add_le_add_left (hb _) _
/-- A number below 2^(K + 52) comes out below the word of 2^(K + 53). -/
theorem nearest_small {mag : Nat} {place : Int} {K : Nat} (h : mag ≠ 0 → place + mag.log2 ≤ K + 52) : Ieee.double.nearest false mag place ≤ (K + 1076) * 4503599627370496 := by
  have e2 : ∀ r, Ieee.double.word false r = r := fun r => rfl
  have e4 : Ieee.double.leastPlace = -1074 := rfl
  have e5 : (Ieee.double.fractionBits : Int) = 52 := rfl
  have e6 : Ieee.double.binade = 4503599627370496 := rfl
  unfold Ieee.Format.nearest
  split
  · rw [e2]; omega
  · rename_i h0
    have h := h h0
    dsimp only
    rw [e2, e4, e5, e6]
    obtain ⟨last, hl⟩ : ∃ last, max (place + (mag.log2 : Int) - 52) (-1074) = last := ⟨_, rfl⟩
    rw [hl]
    have hlast : last ≤ K := by omega
    have hlow : -1074 ≤ last := by omega
    have hk : Ieee.Toward.even.cut false (mag <<< (place - last).toNat) (last - place).toNat ≤ 9007199254740992 := by
      refine Nat.le_trans (cut_le _ _ _) ?_
      have hm := Nat.lt_log2_self (n := mag)
      rcases Int.le_total last place with hp | hp
      · obtain ⟨u, hu⟩ : ∃ u : Nat, place - last = (u : Int) := ⟨(place - last).toNat, by omega⟩
        rw [hu, Int.toNat_natCast, show (last - place).toNat = 0 from by omega, Nat.zero_min, Nat.pow_zero, Nat.div_one, Nat.shiftLeft_eq]
        have hb : mag.log2 + 1 + u ≤ 53 := by omega
        have h53 : 2 ^ (mag.log2 + 1 + u) ≤ 2 ^ 53 := Nat.pow_le_pow_right (by decide) hb
        have : mag * 2 ^ u < 2 ^ (mag.log2 + 1) * 2 ^ u := Nat.mul_lt_mul_of_pos_right hm (Nat.two_pow_pos u)
        rw [← Nat.pow_add] at this
        omega
      · obtain ⟨u, hu⟩ : ∃ u : Nat, last - place = (u : Int) := ⟨(last - place).toNat, by omega⟩
        rw [hu, Int.toNat_natCast, show (place - last).toNat = 0 from by omega, Nat.shiftLeft_zero]
        have hd : mag / 2 ^ min u (mag.log2 + 2) < 2 ^ 53 := by
          rw [Nat.div_lt_iff_lt_mul (Nat.two_pow_pos _), ← Nat.pow_add]
          refine Nat.lt_of_lt_of_le hm (Nat.pow_le_pow_right (by decide) ?_)
          omega
        omega
    have hr : (last - -1074).toNat * 4503599627370496 ≤ (K + 1074) * 4503599627370496 := Nat.mul_le_mul_right _ (by omega)
    refine Nat.le_trans (Nat.min_le_left _ _) ?_
    generalize Ieee.Toward.even.cut false (mag <<< (place - last).toNat) (last - place).toNat = c at hk ⊢
    generalize (last - -1074).toNat = v at hr ⊢
    refine Nat.le_trans (Nat.add_le_add hr hk) ?_
    rw [show K + 1076 = K + 1074 + 2 from rfl, Nat.add_mul (K + 1074) 2]
    exact Nat.le_refl _
/-- A finite word without a sign, and the same with one. -/
theorem read_both {x : Nat} (hx : x < 9223372036854775808) (h : finW x = true) : ∃ (m : Nat) (i : Int), Ieee.double.read x = .number false m i ∧ Ieee.double.read (x + 9223372036854775808) = .number true m i ∧ m < 2 ^ 53 ∧ -1074 ≤ i ∧
    (i = -1074 ∨ (i + 1074).toNat * 4503599627370496 + m = x ∧ 4503599627370496 ≤ m) := by
  have h : x % 2 ^ 63 < 2047 * 2 ^ 52 := of_decide_eq_true h
  have e1 : Ieee.double.signWeight = 2 ^ 63 := rfl
  have e2 : Ieee.double.binade = 2 ^ 52 := rfl
  have e3 : Ieee.double.infRung = 2047 * 2 ^ 52 := rfl
  have e4 : Ieee.double.leastPlace = -1074 := rfl
  have s1 : (x / 2 ^ 63 % 2 == 1) = false := by rw [beq_eq_false_iff_ne]; omega
  have s2 : ((x + 9223372036854775808) / 2 ^ 63 % 2 == 1) = true := by rw [beq_iff_eq]; omega
  have s3 : (x + 9223372036854775808) % 2 ^ 63 = x % 2 ^ 63 := by omega
  unfold Ieee.Format.read
  simp only [e1, e2, e3, e4, s1, s2, s3]
  by_cases h1 : x % 2 ^ 63 < 2 ^ 52
  · rw [if_pos h1, if_pos h1]
    exact ⟨_, _, rfl, rfl, by omega, by omega, .inl rfl⟩
  · rw [if_neg h1, if_neg h1, if_pos h, if_pos h]
    exact ⟨_, _, rfl, rfl, by omega, by omega, .inr ⟨by omega, by omega⟩⟩
theorem log2_lt' {m k : Nat} (h : m < 2 ^ k) (h0 : m ≠ 0) : m.log2 < k := (Nat.log2_lt h0).2 h
/-- A product of small words. -/
theorem mul_both {x y K1 K2 : Nat} (hx : x < 9223372036854775808) (hfx : finW x = true) (hy : y < 9223372036854775808) (hfy : finW y = true) (h1 : x ≤ (K1 + 1075) * 4503599627370496) (h2 : y ≤ (K2 + 1075) * 4503599627370496) :
    ∃ z, floatBits .mul .f64 x y = some z ∧ floatBits .mul .f64 (x + 9223372036854775808) y = some (z + 9223372036854775808) ∧ z ≤ (K1 + K2 + 53 + 1076) * 4503599627370496 := by
  obtain ⟨m, i, r1, r2, hm, hi, hxi⟩ := read_both hx hfx
  obtain ⟨n, j, q1, _, hn, hj, hyj⟩ := read_both hy hfy
  have hiK : i ≤ K1 := by
    rcases hxi with h | ⟨h, h'⟩
    · omega
    · have : (i + 1074).toNat * 4503599627370496 ≤ (K1 + 1074) * 4503599627370496 := by omega
      have := Nat.le_of_mul_le_mul_right this (by decide)
      omega
  have hjK : j ≤ K2 := by
    rcases hyj with h | ⟨h, h'⟩
    · omega
    · have : (j + 1074).toNat * 4503599627370496 ≤ (K2 + 1074) * 4503599627370496 := by omega
      have := Nat.le_of_mul_le_mul_right this (by decide)
      omega
  refine ⟨Ieee.double.nearest false (m * n) (i + j), ?_, ?_, ?_⟩
  · show Ieee.double.mul x y = _
    unfold Ieee.Format.mul
    rw [r1, q1]
    rfl
  · show Ieee.double.mul (x + 9223372036854775808) y = _
    unfold Ieee.Format.mul
    rw [r2, q1, ← nearest_sign]
    rfl
  · refine nearest_small (K := K1 + K2 + 53) fun h0 => ?_
    have : m * n < 2 ^ 106 := by
      rw [show (2 : Nat) ^ 106 = 2 ^ 53 * 2 ^ 53 from by decide]
      exact Nat.mul_lt_mul_of_lt_of_le hm (Nat.le_of_lt hn) (by decide)
    have := log2_lt' this h0
    omega
/-- A quotient by a word of 1 or more. -/
theorem div_both {x y K1 : Nat} (hx : x < 9223372036854775808) (hfx : finW x = true) (hy : y < 9223372036854775808) (hfy : finW y = true) (h1 : x ≤ (K1 + 1075) * 4503599627370496) (h2 : 4607182418800017408 ≤ y) :
    ∃ z, floatBits .quo .f64 x y = some z ∧ floatBits .quo .f64 (x + 9223372036854775808) y = some (z + 9223372036854775808) ∧ z ≤ (K1 + 60 + 1076) * 4503599627370496 := by
  obtain ⟨m, i, r1, r2, hm, hi, hxi⟩ := read_both hx hfx
  obtain ⟨n, j, q1, _, hn, hj, hyj⟩ := read_both hy hfy
  have hiK : i ≤ K1 := by
    rcases hxi with h | ⟨h, h'⟩
    · omega
    · have : (i + 1074).toNat * 4503599627370496 ≤ (K1 + 1074) * 4503599627370496 := by omega
      have := Nat.le_of_mul_le_mul_right this (by decide)
      omega
  have hyb : y % 9223372036854775808 = y := Nat.mod_eq_of_lt hy
  have hjn : -52 ≤ j ∧ n ≠ 0 := by
    rcases hyj with h | ⟨h, h'⟩
    · exfalso
      have hr : Ieee.double.read y = .number false n (-1074) := by rw [q1, h]
      obtain ⟨m', i', hr', hm', hi1, hi2, hcase⟩ := read_fin (x := y) (by omega) hfy
      rw [q1] at hr'
      injection hr' with _ hA hB
      subst hA hB
      rcases hcase with ⟨ha, _, _⟩ | ⟨ha, hb⟩
      · omega
      · rw [h] at hb
        omega
    · omega
  obtain ⟨hj52, hn0⟩ := hjn
  obtain ⟨more, hmore⟩ : ∃ more, 54 + n.log2 - m.log2 = more := ⟨_, rfl⟩
  obtain ⟨dv, hdv⟩ : ∃ dv, m <<< more = dv := ⟨_, rfl⟩
  have hq : ∀ s : Bool, (Ieee.Datum.number s m i).quotient 54 (.number false n j) = some (.number (s ^^ false) (2 * (dv / n) + (dv % n != 0).toNat) (i - j - more - 1)) := by
    intro s
    rw [← hdv, ← hmore]
    show (if n = 0 then _ else _) = _
    rw [if_neg hn0]
  refine ⟨Ieee.double.nearest false (2 * (dv / n) + (dv % n != 0).toNat) (i - j - more - 1), ?_, ?_, ?_⟩
  · show Ieee.double.div x y = _
    unfold Ieee.Format.div
    rw [r1, q1]
    show ((Ieee.Datum.number false m i).quotient 54 (.number false n j)).map _ = _
    rw [hq]
    rfl
  · show Ieee.double.div (x + 9223372036854775808) y = _
    unfold Ieee.Format.div
    rw [r2, q1, ← nearest_sign]
    show ((Ieee.Datum.number true m i).quotient 54 (.number false n j)).map _ = _
    rw [hq]
    rfl
  · refine nearest_small (K := K1 + 60) fun h0 => ?_
    have hb : ∀ b : Bool, b.toNat ≤ 1 := by decide
    have hb := hb (dv % n != 0)
    have hdl : dv / n < 2 ^ 56 := by
      rw [Nat.div_lt_iff_lt_mul (Nat.pos_of_ne_zero hn0), ← hdv, Nat.shiftLeft_eq]
      have hln := Nat.log2_self_le hn0
      have hlm := Nat.lt_log2_self (n := m)
      calc m * 2 ^ more < 2 ^ (m.log2 + 1) * 2 ^ more := Nat.mul_lt_mul_of_pos_right hlm (Nat.two_pow_pos _)
        _ = 2 ^ (m.log2 + 1 + more) := (Nat.pow_add 2 (m.log2 + 1) more).symm
        _ ≤ 2 ^ (56 + n.log2) := Nat.pow_le_pow_right (by decide) (by
            have := log2_lt' (m := n) (k := 53) hn hn0
            by_cases hm0 : m = 0
            · subst hm0
              have : Nat.log2 0 = 0 := by decide
              omega
            · have := log2_lt' hm hm0
              omega)
        _ = 2 ^ 56 * 2 ^ n.log2 := by rw [Nat.pow_add]
        _ ≤ 2 ^ 56 * n := Nat.mul_le_mul_left _ hln
    have hmag : 2 * (dv / n) + (dv % n != 0).toNat < 2 ^ 58 := by omega
    have := log2_lt' hmag h0
    omega
theorem neg_word {x : Nat} (hx : x < 9223372036854775808) : Go.Op.negFloat .f64 x = x + 9223372036854775808 := by
  show x ^^^ 2 ^ 63 = _
  rw [show x + 9223372036854775808 = 2 ^ 63 * 1 + x from by omega]
  apply Nat.eq_of_testBit_eq
  intro i
  rw [Nat.testBit_xor, Nat.testBit_two_pow, Nat.testBit_two_pow_mul_add 1 (show x < 2 ^ 63 from hx)]
  by_cases hi : i < 63
  · rw [if_pos hi, decide_eq_false (by omega), Bool.xor_false]
  · rw [if_neg hi, Nat.testBit_lt_two_pow (Nat.lt_of_lt_of_le (show x < 2 ^ 63 from hx) (Nat.pow_le_pow_right (by decide) (by omega))), Bool.false_xor]
    by_cases h2 : i = 63
    · subst h2; decide
    · rw [decide_eq_false (by omega)]
      obtain ⟨j, rfl⟩ : ∃ j, i = 63 + (j + 1) := ⟨i - 64, by omega⟩
      rw [show 63 + (j + 1) - 63 = j + 1 from by omega, Nat.testBit_succ]
      simp
theorem order_np {x y : Nat} (hx : x < 9223372036854775808) (hfx : finW x = true) (hy : y < 9223372036854775808) (hfy : finW y = true) :
    (FloatKind.f64.format.order x (y + 9223372036854775808) == some .lt) = false ∧ (FloatKind.f64.format.order (x + 9223372036854775808) y == some .gt) = false ∧
    (FloatKind.f64.format.order (x + 9223372036854775808) (y + 9223372036854775808) == some .lt) = (FloatKind.f64.format.order x y == some .gt) := by
  obtain ⟨m, i, r1, r2, -⟩ := read_both hx hfx
  obtain ⟨n, j, q1, q2, -⟩ := read_both hy hfy
  show (Ieee.double.order x (y + 9223372036854775808) == some .lt) = false ∧ (Ieee.double.order (x + 9223372036854775808) y == some .gt) = false ∧ (Ieee.double.order (x + 9223372036854775808) (y + 9223372036854775808) == some .lt) = (Ieee.double.order x y == some .gt)
  unfold Ieee.Format.order
  rw [r1, r2, q1, q2]
  simp only [Ieee.Datum.order, Ieee.signed]
  generalize m <<< (i - min i j).toNat = a
  generalize n <<< (j - min i j).toNat = b
  have hb : ∀ o o' : Ordering, (some o == some o') = (o == o') := fun o o' => rfl
  rw [hb, hb, hb, hb]
  simp only [if_true, Bool.false_eq_true, if_false]
  refine ⟨?_, ?_, ?_⟩
  · rw [beq_eq_false_iff_ne]
    intro h
    have := Int.compare_eq_lt.1 h
    omega
  · rw [beq_eq_false_iff_ne]
    intro h
    have := Int.compare_eq_gt.1 h
    omega
  · rw [Bool.eq_iff_iff, beq_iff_eq, beq_iff_eq, Int.compare_eq_lt, Int.compare_eq_gt]
    omega
end Go.Proofs.YtadpeebcombjnaaGreatDoor
namespace Go.Proofs.YtadpeebcombjnaaGreatDoor
open Go Go.Proofs Go.RowKit Go.Lib
set_option maxRecDepth 100000
def FW (m : Nat) : Nat := Ieee.double.nearest false m 0
theorem FW_le {m : Nat} (h : m < 2 ^ 52) : FW m ≤ (1 + 1075) * 4503599627370496 := by
  refine nearest_small (K := 0) fun h0 => ?_
  have := log2_lt' h h0
  omega
theorem fin_le {x K : Nat} (h : x ≤ (K + 1075) * 4503599627370496) (hK : K ≤ 900) : x < 9223372036854775808 ∧ finW x = true := by
  have : (K + 1075) * 4503599627370496 ≤ (900 + 1075) * 4503599627370496 := Nat.mul_le_mul_right _ (by omega)
  refine ⟨by omega, decide_eq_true ?_⟩
  omega
theorem fpt_ok {k : Nat} (h : k ≤ 22) : fpt k < 9223372036854775808 ∧ finW (fpt k) = true ∧ fpt k ≤ (22 + 1075) * 4503599627370496 ∧ 4607182418800017408 ≤ fpt k := by
  have h2 : ∀ k : Fin 23, fpt k.val < 9223372036854775808 ∧ finW (fpt k.val) = true ∧ fpt k.val ≤ (22 + 1075) * 4503599627370496 ∧ 4607182418800017408 ≤ fpt k.val := by decide +kernel
  exact h2 ⟨k, by omega⟩
def mulW (x y : Nat) : Nat := (floatBits .mul .f64 x y).getD 0
def divW (x y : Nat) : Nat := (floatBits .quo .f64 x y).getD 0
/-- What is multiplied last. -/
def exB (m : Nat) (e : Int) : Nat := if 22 < e then mulW (FW m) (fpt (e - 22).toNat) else FW m
def exBig (m : Nat) (e : Int) : Bool := FloatKind.f64.format.order (exB m e) 4831355200913801216 == some .gt
/-- The word without its sign, where it can be had by one multiplication or division. -/
def exW (m : Nat) (e : Int) : Option Nat :=
  if 4503599627370496 ≤ m then none else if e = 0 then some (FW m)
  else if 0 < e ∧ e ≤ 37 then (if exBig m e = true then none else some (mulW (exB m e) (fpt (if 22 < e then 22 else e.toNat))))
  else if e < 0 ∧ -22 ≤ e then some (divW (FW m) (fpt (-e).toNat)) else none
theorem mulW_ok {x k K : Nat} (hx : x ≤ (K + 1075) * 4503599627370496) (hK : K ≤ 700) (hk : k ≤ 22) : floatBits .mul .f64 x (fpt k) = some (mulW x (fpt k)) ∧ floatBits .mul .f64 (x + 9223372036854775808) (fpt k) = some (mulW x (fpt k) + 9223372036854775808) ∧ mulW x (fpt k) ≤ (K + 76 + 1075) * 4503599627370496 := by
  obtain ⟨f1, f2⟩ := fin_le hx (by omega)
  obtain ⟨g1, g2, g3, g4⟩ := fpt_ok hk
  obtain ⟨z, h1, h2, h3⟩ := mul_both f1 f2 g1 g2 hx g3
  have e : mulW x (fpt k) = z := by unfold mulW; rw [h1]; rfl
  rw [e]
  exact ⟨h1, h2, by rw [show K + 76 + 1075 = K + 22 + 53 + 1076 from by omega]; exact h3⟩
theorem divW_ok {x k K : Nat} (hx : x ≤ (K + 1075) * 4503599627370496) (hK : K ≤ 700) (hk : k ≤ 22) : floatBits .quo .f64 x (fpt k) = some (divW x (fpt k)) ∧ floatBits .quo .f64 (x + 9223372036854775808) (fpt k) = some (divW x (fpt k) + 9223372036854775808) ∧ divW x (fpt k) ≤ (K + 61 + 1075) * 4503599627370496 := by
  obtain ⟨f1, f2⟩ := fin_le hx (by omega)
  obtain ⟨g1, g2, g3, g4⟩ := fpt_ok hk
  obtain ⟨z, h1, h2, h3⟩ := div_both f1 f2 g1 g2 hx g4
  have e : divW x (fpt k) = z := by unfold divW; rw [h1]; rfl
  rw [e]
  exact ⟨h1, h2, by rw [show K + 61 + 1075 = K + 60 + 1076 from by omega]; exact h3⟩
theorem exB_le {m : Nat} {e : Int} (hm : m < 2 ^ 52) (he : e ≤ 37) : exB m e ≤ (77 + 1075) * 4503599627370496 := by
  unfold exB
  split
  · exact (mulW_ok (FW_le hm) (by decide) (by omega)).2.2
  · exact Nat.le_trans (FW_le hm) (Nat.mul_le_mul_right _ (by decide))
theorem exW_fin {m : Nat} {e : Int} {x : Nat} (h : exW m e = some x) : x < 9223372036854775808 ∧ finW x = true := by
  unfold exW at h
  split at h
  · cases h
  rename_i hm
  split at h
  · injection h with h; subst h
    exact fin_le (FW_le (by omega)) (by decide)
  split at h
  · rename_i he
    split at h
    · cases h
    · injection h with h; subst h
      exact fin_le (mulW_ok (exB_le (by omega) he.2) (by decide) (by split <;> omega)).2.2 (by decide)
  split at h
  · rename_i he
    injection h with h; subst h
    exact fin_le (divW_ok (FW_le (by omega)) (by decide) (by omega)).2.2 (by decide)
  · cases h
def ExPost (sg : Nat) (r : Option Nat) (w : World) (e : Ending) (w' : World) : Prop := w' = w ∧
  ((r = none ∧ ∃ y, e = .returned (.tuple #[.float .f64 y, .bool false])) ∨ ∃ x, r = some x ∧ e = .returned (.tuple #[.float .f64 (x + sg), .bool true]))
/-- The sign of a float. -/
def sgn (neg : Bool) : Nat := if neg = true then 9223372036854775808 else 0
theorem mulW_sg {x k K : Nat} (neg : Bool) (hx : x ≤ (K + 1075) * 4503599627370496) (hK : K ≤ 700) (hk : k ≤ 22) : floatBits .mul .f64 (x + sgn neg) (fpt k) = some (mulW x (fpt k) + sgn neg) := by
  cases neg with
  | true => exact (mulW_ok hx hK hk).2.1
  | false => exact (mulW_ok hx hK hk).1
theorem divW_sg {x k K : Nat} (neg : Bool) (hx : x ≤ (K + 1075) * 4503599627370496) (hK : K ≤ 700) (hk : k ≤ 22) : floatBits .quo .f64 (x + sgn neg) (fpt k) = some (divW x (fpt k) + sgn neg) := by
  cases neg with
  | true => exact (divW_ok hx hK hk).2.1
  | false => exact (divW_ok hx hK hk).1
/-- The test on both sides, of a float with a sign. -/
theorem big_sg {x K : Nat} (neg : Bool) (hx : x ≤ (K + 1075) * 4503599627370496) (hK : K ≤ 700) {b : Bool} (hb : (FloatKind.f64.format.order x 4831355200913801216 == some .gt) = b) :
    (neg = false ∧ (FloatKind.f64.format.order (x + sgn neg) 4831355200913801216 == some .gt) = b ∧ (FloatKind.f64.format.order (x + sgn neg) 14054727237768577024 == some .lt) = false) ∨
    (neg = true ∧ (FloatKind.f64.format.order (x + sgn neg) 4831355200913801216 == some .gt) = false ∧ (FloatKind.f64.format.order (x + sgn neg) 14054727237768577024 == some .lt) = b) := by
  obtain ⟨f1, f2⟩ := fin_le hx (by omega)
  have h := order_np f1 f2 (y := 4831355200913801216) (by decide) (by decide)
  have e : 4831355200913801216 + 9223372036854775808 = 14054727237768577024 := rfl
  rw [e] at h
  cases neg with
  | false => exact .inl ⟨rfl, hb, h.1⟩
  | true => exact .inr ⟨rfl, h.2.1, h.2.2.trans hb⟩
set_option maxHeartbeats 4000000 in
theorem ex_any {lo : Nat} {w : World} (hT : Tabs lo w) (m : Nat) (hm : m < 2 ^ 64) (e : Int) (he : -345 ≤ e ∧ e ≤ 310) (neg : Bool) :
    Calls Tryz.prog 121 #[.int .u64 (m : Nat), .int .i64 e, .bool neg] w (ExPost (sgn neg) (exW m e) w) := by
  have i0 := hT.info.1
  obtain ⟨pb, po, pc, _, pcell, ptab⟩ := hT.fpow
  clear hT
  by_cases h52 : 4503599627370496 ≤ m
  · have HX : Hid (exW m e = none) := Lib.hid (if_pos h52)
    have hb : ((m : Int) / 4503599627370496 != 0) = true := by rw [bne_iff_ne]; omega
    clear h52 ptab
    go_enter Tryz.func121, Tryz.ntmps121
    go_wp2_with fail
    go_ret2
    exact ⟨rfl, .inl ⟨HX.out, _, rfl⟩⟩
  have hb : ((m : Int) / 4503599627370496 != 0) = false := by rw [bne_eq_false_iff_eq]; omega
  have hfw := FW_le (show m < 2 ^ 52 by omega)
  have hx0 : exW m e = if e = 0 then some (FW m)
    else if 0 < e ∧ e ≤ 37 then (if exBig m e = true then none else some (mulW (exB m e) (fpt (if 22 < e then 22 else e.toNat))))
    else if e < 0 ∧ -22 ≤ e then some (divW (FW m) (fpt (-e).toNat)) else none := if_neg h52
  have hcv : floatOfInt FloatKind.f64 (m : Int) = FW m := by
    show FloatKind.f64.nearest (m : Int) = FW m
    show Ieee.double.nearest (decide ((m : Int) < 0)) (m : Int).natAbs 0 = _
    rw [decide_eq_false (by omega), Int.natAbs_natCast]
    rfl
  have hng := neg_word (fin_le hfw (by decide)).1
  have hbl := fun h37 => exB_le (m := m) (e := e) (by omega) h37
  obtain ⟨f0, hf0⟩ : ∃ f, FW m = f := ⟨_, rfl⟩
  have hdef : exB m e = if 22 < e then mulW f0 (fpt (e - 22).toNat) else f0 := by rw [← hf0]; rfl
  have hbigd : exBig m e = (FloatKind.f64.format.order (exB m e) 4831355200913801216 == some .gt) := rfl
  rw [hf0] at hcv hng hx0 hfw
  have HX0 := Lib.hid hx0
  have HDEF := Lib.hid hdef
  have HBIG := Lib.hid hbigd
  have HBL := Lib.hid hbl
  have HFW := Lib.hid hfw
  have HPT := Lib.hid ptab
  obtain ⟨F, hF⟩ : ∃ F, f0 + sgn neg = F := ⟨_, rfl⟩
  have HFF := Lib.hid hF
  have hcase : (neg = false ∧ floatOfInt FloatKind.f64 (m : Int) = F) ∨ (neg = true ∧ floatOfInt FloatKind.f64 (m : Int) = f0 ∧ Go.Op.negFloat .f64 f0 = F) := by
    cases neg with
    | false => exact .inl ⟨rfl, by rw [hcv, ← hF]; rfl⟩
    | true => exact .inr ⟨rfl, hcv, by rw [hng, ← hF]; rfl⟩
  clear hx0 hdef hbigd hbl hfw ptab hcv hng hf0 hF
  have HCASE := Lib.hid hcase
  clear hcase
  go_enter Tryz.func121, Tryz.ntmps121
  go_upto_if 15 with (fail)
  go_cut [6] from 8 to 17 (fun vf wx => w = wx ∧ vf = .float .f64 F)
  case first =>
    rcases HCASE.out with ⟨rfl, h1⟩ | ⟨rfl, h1, h2⟩
    · go_wp2_with fail
      go_meet
      exact ⟨rfl, rfl⟩
    · have hun : Op.unary .neg (.float .f64 f0) = pure (.float .f64 F) := by rw [← h2]; rfl
      clear h2
      go_wp2_with fail
      go_meet
      exact ⟨rfl, rfl⟩
  case rest =>
    obtain ⟨rfl, rfl⟩ := hcut
    clear hb HCASE i0
    by_cases h0 : e = 0
    · subst h0
      have HX : Hid (exW m 0 = some f0) := Lib.hid (HX0.out.trans (if_pos rfl))
      go_wp2_with fail
      go_ret2
      exact ⟨rfl, .inr ⟨f0, HX.out, by rw [HFF.out]; rfl⟩⟩
    have h0b : (e == 0) = false := by rw [beq_eq_false_iff_ne]; exact h0
    by_cases hp : 0 < e ∧ e ≤ 37
    · have HX : Hid (exW m e = (if exBig m e = true then none else some (mulW (exB m e) (fpt (if 22 < e then 22 else e.toNat))))) := Lib.hid (HX0.out.trans ((if_neg h0).trans (if_pos hp)))
      have p1 : decide ((0 : Int) < e) = true := decide_eq_true hp.1
      have p2 : decide (e ≤ 37) = true := decide_eq_true hp.2
      have he37 := hp.2
      have he0 := hp.1
      have hbl := HBL.out hp.2
      obtain ⟨k1, hk1⟩ : ∃ k1 : Nat, (if 22 < e then 22 else e.toNat) = k1 := ⟨_, rfl⟩
      have hk22 : k1 ≤ 22 := by rw [← hk1]; split <;> omega
      rw [hk1] at HX
      obtain ⟨B, hB⟩ : ∃ B, exB m e = B := ⟨_, rfl⟩
      rw [hB] at HX hbl HBIG HDEF
      have HBLL := Lib.hid hbl
      obtain ⟨G, hG⟩ : ∃ G, B + sgn neg = G := ⟨_, rfl⟩
      have HG := Lib.hid hG
      have HK1 := Lib.hid hk1
      clear hp h0 hbl hB hG hk1 HX0
      go_upto_if 30 with (fail)
      go_cut [1, 6] from 18 to 37 (fun vk vf wx => w = wx ∧ vk = .int .i64 (k1 : Nat) ∧ vf = .float .f64 G)
      case first =>
        by_cases h22 : 22 < e
        · obtain ⟨k, hk⟩ : ∃ k : Nat, e = (k : Int) + 22 := ⟨(e - 22).toNat, by omega⟩
          subst hk
          have hk15 : k ≤ 15 := by omega
          have hk1' := HK1.out
          rw [if_pos h22] at hk1'
          subst hk1'
          have hbe := HDEF.out
          rw [if_pos h22, show ((k : Int) + 22 - 22).toNat = k from by omega] at hbe
          have hml := mulW_sg neg HFW.out (by decide) (show k ≤ 22 by omega)
          rw [← hbe, HG.out, HFF.out] at hml
          have hc := HPT.out k (by omega)
          have hrm : ∀ W, (binOp .mul 38 (.float .f64 F) (.float .f64 (fpt k))).run Tryz.prog W = .ok (.float .f64 G) W := fun W => run_float_arith (w := W) .mul 38 .f64 _ _ _ hml
          have hki : (k : Int) < 23 := by omega
          clear hml hbe
          go_wp2_with fail
          go_meet
          exact ⟨rfl, rfl, rfl⟩
        · have hk1' := HK1.out
          rw [if_neg h22] at hk1'
          have hbe := HDEF.out
          rw [if_neg h22] at hbe
          have hFG : F = G := by rw [← HFF.out, ← HG.out, hbe]
          have hke : e = (k1 : Int) := by omega
          clear hbe hk1'
          subst hke hFG
          go_wp2_with fail
          go_meet
          exact ⟨rfl, rfl, rfl⟩
      case rest =>
        obtain ⟨rfl, rfl, rfl⟩ := hcut
        have hbs := big_sg neg HBLL.out (by decide) HBIG.out.symm
        rw [HG.out] at hbs
        have hbs2 : ∃ b1 b2, (FloatKind.f64.format.order G 4831355200913801216 == some .gt) = b1 ∧ (FloatKind.f64.format.order G 14054727237768577024 == some .lt) = b2 ∧ (b1 || b2) = exBig m e := by
          rcases hbs with ⟨_, h1, h2⟩ | ⟨_, h1, h2⟩
          · exact ⟨_, _, h1, h2, by rw [Bool.or_false]⟩
          · exact ⟨_, _, h1, h2, by rw [Bool.false_or]⟩
        obtain ⟨b1, b2, hb1, hb2, hb12⟩ := hbs2
        have HB12 := Lib.hid hb12
        clear hbs hb12
        cases b1 with
        | true =>
          have HXX : Hid (exW m e = none) := Lib.hid (by rw [HX.out, ← HB12.out]; rfl)
          go_wp2_with fail
          go_ret2
          exact ⟨rfl, .inl ⟨HXX.out, _, rfl⟩⟩
        | false =>
          cases b2 with
          | true =>
            have HXX : Hid (exW m e = none) := Lib.hid (by rw [HX.out, ← HB12.out]; rfl)
            go_wp2_with fail
            go_ret2
            exact ⟨rfl, .inl ⟨HXX.out, _, rfl⟩⟩
          | false =>
            have HXX : Hid (exW m e = some (mulW B (fpt k1))) := Lib.hid (by rw [HX.out, ← HB12.out]; rfl)
            have hml := mulW_sg neg HBLL.out (by decide) hk22
            rw [HG.out] at hml
            have hc := HPT.out k1 hk22
            obtain ⟨Z, hZ⟩ : ∃ Z, mulW B (fpt k1) + sgn neg = Z := ⟨_, rfl⟩
            rw [hZ] at hml
            have HZ := Lib.hid hZ
            have hrm : ∀ W, (binOp .mul 38 (.float .f64 G) (.float .f64 (fpt k1))).run Tryz.prog W = .ok (.float .f64 Z) W := fun W => run_float_arith (w := W) .mul 38 .f64 _ _ _ hml
            have hki : (k1 : Int) < 23 := by omega
            clear hml hZ
            go_wp2_with fail
            go_ret2
            exact ⟨rfl, .inr ⟨_, HXX.out, by rw [HZ.out]; rfl⟩⟩
    · have hp3 : (decide ((0 : Int) < e) = false ∧ True) ∨ (decide ((0 : Int) < e) = true ∧ decide (e ≤ 37) = false) := by
        by_cases h : 0 < e
        · exact .inr ⟨decide_eq_true h, decide_eq_false (fun h2 => hp ⟨h, h2⟩)⟩
        · exact .inl ⟨decide_eq_false h, trivial⟩
      by_cases hq : e < 0 ∧ -22 ≤ e
      · obtain ⟨k, hk⟩ : ∃ k : Nat, e = -(k : Int) := ⟨(-e).toNat, by omega⟩
        subst hk
        have hk22 : k ≤ 22 := by omega
        have HXX : Hid (exW m (-(k : Int)) = some (divW f0 (fpt k))) := Lib.hid (by
          rw [HX0.out, if_neg h0, if_neg hp, if_pos hq, Int.neg_neg, Int.toNat_natCast])
        have hml := divW_sg neg HFW.out (by decide) hk22
        rw [HFF.out] at hml
        have hc := HPT.out k hk22
        obtain ⟨Z, hZ⟩ : ∃ Z, divW f0 (fpt k) + sgn neg = Z := ⟨_, rfl⟩
        rw [hZ] at hml
        have HZ := Lib.hid hZ
        have hrm : ∀ W, (binOp .quo 38 (.float .f64 F) (.float .f64 (fpt k))).run Tryz.prog W = .ok (.float .f64 Z) W := fun W => run_float_arith (w := W) .quo 38 .f64 _ _ _ hml
        have hki : (k : Int) < 23 := by omega
        have hk0 : 0 < k := by omega
        have p0 : decide ((0 : Int) < -(k : Int)) = false := decide_eq_false (by omega)
        have p1 : decide (0 < k) = true := decide_eq_true hk0
        have p2 : decide (-22 ≤ -(k : Int)) = true := decide_eq_true (by omega)
        have h0b : (-(k : Int) == 0) = false := h0b
        clear hml hZ hp hq hp3 h0
        go_wp2_with fail
        go_ret2
        exact ⟨rfl, .inr ⟨_, HXX.out, by rw [HZ.out]; rfl⟩⟩
      · have HXX : Hid (exW m e = none) := Lib.hid (by rw [HX0.out, if_neg h0, if_neg hp, if_neg hq])
        have hq3 : (decide (e < 0) = false ∧ True) ∨ (decide (e < 0) = true ∧ decide (-22 ≤ e) = false) := by
          by_cases h : e < 0
          · exact .inr ⟨decide_eq_true h, decide_eq_false (fun h2 => hq ⟨h, h2⟩)⟩
          · exact .inl ⟨decide_eq_false h, trivial⟩
        clear hp hq h0
        rcases hp3 with ⟨p1, _⟩ | ⟨p1, p2⟩
        all_goals
          rcases hq3 with ⟨q1, _⟩ | ⟨q1, q2⟩
          all_goals
            go_wp2_with fail
            go_ret2
            exact ⟨rfl, .inl ⟨HXX.out, _, rfl⟩⟩
end Go.Proofs.YtadpeebcombjnaaGreatDoor
