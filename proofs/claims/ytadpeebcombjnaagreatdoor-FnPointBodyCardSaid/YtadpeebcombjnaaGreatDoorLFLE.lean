/- Floats: the sign, finite numbers, the tests for NaN and infinity. -/
import Derived.Test.YtadpeebcombjnaaGreatDoorLD
import Derived.Laws.FloatArith
import Derived.Laws.BitsAllLaws
namespace Go.Proofs.YtadpeebcombjnaaGreatDoor
open Go Go.Proofs Go.RowKit Go.Lib
set_option maxRecDepth 100000
theorem bits_call (x : Nat) (W : World) : (callFunc 43 #[.float .f64 x]).run Tryz.prog W = .ok (.value (.int .u64 (x : Int))) W := by kernel_rfl
theorem from_call (n : Int) (W : World) : (callFunc 98 #[.int .u64 n]).run Tryz.prog W = .ok (.value (.float .f64 n.toNat)) W := by kernel_rfl
theorem from_call2 (n : Int) (W : World) : (callFunc 120 #[.int .u64 n]).run Tryz.prog W = .ok (.value (.float .f64 n.toNat)) W := by kernel_rfl
theorem abs_bits {x : Nat} (hx : x < 2 ^ 64) : (bits BinOp.andNot IntKind.u64 (x : Int) 9223372036854775808).toNat = x % 2 ^ 63 := by
  have h := u64_andNot_nat x 9223372036854775808 (by omega) (by decide)
  have e : ((9223372036854775808 : Nat) : Int) = 9223372036854775808 := rfl
  rw [e] at h
  rw [h, Int.toNat_natCast, show 18446744073709551615 - 9223372036854775808 = 2 ^ 63 - 1 from by decide, Nat.and_two_pow_sub_one_eq_mod]
theorem abs_any {x : Nat} (w : World) (hx : x < 2 ^ 64) : Calls Tryz.prog 81 #[.float .f64 x] w fun e w' => e = .returned (.float .f64 (x % 2 ^ 63)) ∧ w' = w := by
  have h1 := bits_call x
  have h2 := from_call
  have HX := Lib.hid hx
  clear hx
  go_enter Tryz.func81, Tryz.ntmps81
  go_wp2
  go_ret
  refine ⟨?_, rfl⟩
  show Ending.returned (.float .f64 (bits BinOp.andNot IntKind.u64 (x : Int) 9223372036854775808).toNat) = _
  rw [abs_bits HX.out]
/-- What a finite word stands for. -/
theorem read_fin {x : Nat} (hx : x < 2 ^ 64) (h : finW x = true) : ∃ (m : Nat) (i : Int), Ieee.double.read x = .number (decide (2 ^ 63 ≤ x)) m i ∧ m < 2 ^ 53 ∧ -1074 ≤ i ∧ i ≤ 971 ∧
    (((x % 2 ^ 63 < 2 ^ 52) ∧ m = x % 2 ^ 63 ∧ i = -1074) ∨ (2 ^ 52 ≤ m ∧ (i + 1074).toNat * 2 ^ 52 + m = x % 2 ^ 63)) := by
  have h : x % 2 ^ 63 < 2047 * 2 ^ 52 := of_decide_eq_true h
  have hs : (x / 2 ^ 63 % 2 == 1) = decide (2 ^ 63 ≤ x) := by
    rw [Bool.eq_iff_iff, beq_iff_eq, decide_eq_true_eq]; omega
  have e1 : Ieee.double.signWeight = 2 ^ 63 := rfl
  have e2 : Ieee.double.binade = 2 ^ 52 := rfl
  have e3 : Ieee.double.infRung = 2047 * 2 ^ 52 := rfl
  have e4 : Ieee.double.leastPlace = -1074 := rfl
  unfold Ieee.Format.read
  simp only [e1, e2, e3, e4, hs]
  by_cases h1 : x % 2 ^ 63 < 2 ^ 52
  · rw [if_pos h1]
    exact ⟨_, _, rfl, by omega, by omega, by omega, .inl ⟨h1, rfl, rfl⟩⟩
  · rw [if_neg h1, if_pos h]
    exact ⟨_, _, rfl, by omega, by omega, by omega, .inr ⟨by omega, by omega⟩⟩
theorem cmp_self (a : Int) : compare a a = .eq := by simp [compare, compareOfLessAndEq]
theorem order_self {x : Nat} (hx : x < 2 ^ 64) (h : finW x = true) : Ieee.double.order x x = some .eq := by
  obtain ⟨m, i, hr, _⟩ := read_fin hx h
  unfold Ieee.Format.order
  rw [hr]
  simp only [Ieee.Datum.order]
  rw [cmp_self]
theorem isNaN_fin {x : Nat} (w : World) (h : finW x = true) (hx : x < 2 ^ 64) : Calls Tryz.prog 63 #[.float .f64 x] w fun e w' => e = .returned (.bool false) ∧ w' = w := by
  have ho : FloatKind.f64.format.order x x = some .eq := order_self hx h
  clear h hx
  go_enter Tryz.func63, Tryz.ntmps63
  go_wp2
  go_ret
  exact ⟨rfl, rfl⟩
theorem isNaN_nan (w : World) : Calls Tryz.prog 63 #[.float .f64 9221120237041090561] w fun e w' => e = .returned (.bool true) ∧ w' = w := by
  have ho : FloatKind.f64.format.order 9221120237041090561 9221120237041090561 = none := by decide
  go_enter Tryz.func63, Tryz.ntmps63
  go_wp2
  go_ret
  exact ⟨rfl, rfl⟩
theorem isNaN_inf (w : World) : Calls Tryz.prog 63 #[.float .f64 9218868437227405312] w fun e w' => e = .returned (.bool false) ∧ w' = w := by
  have ho : FloatKind.f64.format.order 9218868437227405312 9218868437227405312 = some .eq := by decide
  go_enter Tryz.func63, Tryz.ntmps63
  go_wp2
  go_ret
  exact ⟨rfl, rfl⟩
theorem isInf_inf (w : World) : Calls Tryz.prog 64 #[.float .f64 9218868437227405312, .int .i64 0] w fun e w' => e = .returned (.bool true) ∧ w' = w := by
  have ha := fun wx => abs_any (x := 9218868437227405312) wx (by decide)
  have ho : FloatKind.f64.format.order 9218868437227405312 9218868437227405311 = some .gt := by decide
  go_enter Tryz.func64, Tryz.ntmps64
  go_wp2_with (go_at_call 81; refine (ha _).mono ?_; rintro _ _ ⟨rfl, rfl⟩)
  go_ret
  exact ⟨rfl, rfl⟩
theorem order_max {x : Nat} (hx : x < 2 ^ 63) (h : finW x = true) : (Ieee.double.order x 9218868437227405311 == some .gt) = false := by
  obtain ⟨m, i, hr, h1, h2, h3, h4⟩ := read_fin (by omega) h
  have hm : Ieee.double.read 9218868437227405311 = .number false (2 ^ 53 - 1) 971 := by decide
  have hs : decide (2 ^ 63 ≤ x) = false := decide_eq_false (by omega)
  unfold Ieee.Format.order
  rw [hr, hm, hs]
  simp only [Ieee.Datum.order, Ieee.signed]
  have hmin : min i 971 = i := Int.min_eq_left h3
  rw [hmin, Int.sub_self]
  have hle : m ≤ (2 ^ 53 - 1) <<< (971 - i).toNat := by
    rw [Nat.shiftLeft_eq]
    exact Nat.le_trans (by omega) (Nat.le_mul_of_pos_right _ (Nat.two_pow_pos _))
  rw [beq_eq_false_iff_ne]
  intro hc
  injection hc with hc
  simp only [Bool.false_eq_true, if_false, Int.toNat_zero, Nat.shiftLeft_zero, compare, compareOfLessAndEq] at hc
  split at hc
  · exact absurd hc (by decide)
  · split at hc
    · exact absurd hc (by decide)
    · rename_i h5 h6
      omega
theorem isInf_fin {x : Nat} (w : World) (h : finW x = true) (hx : x < 2 ^ 64) : Calls Tryz.prog 64 #[.float .f64 x, .int .i64 0] w fun e w' => e = .returned (.bool false) ∧ w' = w := by
  have ha := fun wx => abs_any (x := x) wx hx
  have ho : (FloatKind.f64.format.order (x % 2 ^ 63) 9218868437227405311 == some .gt) = false := order_max (Nat.mod_lt _ (by decide)) (by
    have h : x % 2 ^ 63 < 2047 * 2 ^ 52 := of_decide_eq_true h
    exact decide_eq_true (by rw [Nat.mod_mod]; exact h))
  clear h hx
  obtain ⟨y, hy⟩ : ∃ y, x % 2 ^ 63 = y := ⟨_, rfl⟩
  rw [hy] at ha ho
  clear hy
  go_enter Tryz.func64, Tryz.ntmps64
  go_wp2_with (go_at_call 81; refine (ha _).mono ?_; rintro _ _ ⟨rfl, rfl⟩)
  go_ret
  exact ⟨rfl, rfl⟩
theorem log2_shift {m : Nat} (h : m ≠ 0) (k : Nat) : (m * 2 ^ k).log2 = m.log2 + k := by
  rw [Nat.log2_eq_iff (by have := Nat.two_pow_pos k; exact Nat.mul_ne_zero h (by omega))]
  have h1 := (Nat.log2_eq_iff h).1 rfl
  constructor
  · rw [Nat.pow_add]; exact Nat.mul_le_mul_right _ h1.1
  · rw [show m.log2 + k + 1 = (m.log2 + 1) + k from by omega, Nat.pow_add]
    exact Nat.mul_lt_mul_of_pos_right h1.2 (Nat.two_pow_pos k)
/-- A number of the format, written with 52 digits more, comes out as it is. -/
theorem nearest_fin {x : Nat} (neg : Bool) {m : Nat} {i : Int} (h : x % 2 ^ 63 < 2047 * 2 ^ 52) (h1 : m < 2 ^ 53) (h2 : -1074 ≤ i)
    (h4 : ((x % 2 ^ 63 < 2 ^ 52) ∧ m = x % 2 ^ 63 ∧ i = -1074) ∨ (2 ^ 52 ≤ m ∧ (i + 1074).toNat * 2 ^ 52 + m = x % 2 ^ 63)) :
    Ieee.double.nearest neg (m * 2 ^ 52) (i + -52) = if neg then 2 ^ 63 + x % 2 ^ 63 else x % 2 ^ 63 := by
  have e1 : ∀ r, Ieee.double.word neg r = if neg then 2 ^ 63 + r else r := fun r => rfl
  have e2 : Ieee.double.binade = 2 ^ 52 := rfl
  have e3 : Ieee.double.infRung = 2047 * 2 ^ 52 := rfl
  have e4 : Ieee.double.leastPlace = -1074 := rfl
  have e5 : (Ieee.double.fractionBits : Int) = 52 := rfl
  unfold Ieee.Format.nearest
  by_cases h0 : m = 0
  · subst h0
    rw [Nat.zero_mul, if_pos rfl, e1]
    have : x % 2 ^ 63 = 0 := by omega
    rw [this]
  · have hm0 : m * 2 ^ 52 ≠ 0 := Nat.mul_ne_zero h0 (by decide)
    rw [if_neg hm0, log2_shift h0]
    have hlast : max (i + -52 + ((m.log2 + 52 : Nat) : Int) - (Ieee.double.fractionBits : Int)) Ieee.double.leastPlace = i := by
      rw [e4, e5]
      rcases h4 with ⟨ha, hb, hc⟩ | ⟨ha, hb⟩
      · have : m.log2 < 52 := (Nat.log2_lt h0).2 (by omega)
        omega
      · have : m.log2 = 52 := (Nat.log2_eq_iff h0).2 ⟨ha, h1⟩
        omega
    simp only [hlast]
    have ht1 : (i + -52 - i).toNat = 0 := by omega
    have ht2 : (i - (i + -52)).toNat = 52 := by omega
    rw [ht1, ht2, Nat.shiftLeft_zero]
    have hcut : Ieee.Toward.even.cut neg (m * 2 ^ 52) 52 = m := by
      unfold Ieee.Toward.cut
      have hg : 1 <<< min 52 ((m * 2 ^ 52).log2 + 2) = 2 ^ 52 := by
        rw [log2_shift h0, Nat.min_eq_left (by omega), Nat.one_shiftLeft]
      simp only [hg]
      rw [Nat.mul_div_cancel _ (by decide), Nat.mul_mod_left]
      simp
    rw [hcut, e1, e2, e3, e4]
    have hr : (i - -1074).toNat * 2 ^ 52 + m = x % 2 ^ 63 := by
      rcases h4 with ⟨ha, hb, hc⟩ | ⟨ha, hb⟩
      · subst hc; rw [hb]; simp
      · rw [← hb, show i - -1074 = i + 1074 from by omega]
    rw [hr, Nat.min_eq_left (by omega)]
theorem mul_flip {x : Nat} (h : finW x = true) (hx : x < 2 ^ 64) : floatBits .mul .f64 x 13830554455654793216 = some (flipW x) := by
  obtain ⟨m, i, hr, h1, h2, h3, h4⟩ := read_fin hx h
  have hm : Ieee.double.read 13830554455654793216 = .number true (2 ^ 52) (-52) := by decide
  have hk : floatBits .mul .f64 x 13830554455654793216 = Ieee.double.mul x 13830554455654793216 := rfl
  rw [hk]
  unfold Ieee.Format.mul
  rw [hr, hm]
  simp only [Ieee.Datum.product, Option.map_some, Ieee.Format.write]
  rw [nearest_fin _ (of_decide_eq_true h) h1 h2 h4]
  unfold flipW
  by_cases hs : x < 2 ^ 63
  · have e : decide (2 ^ 63 ≤ x) = false := decide_eq_false (by omega)
    rw [e, if_pos hs]
    simp; omega
  · have e : decide (2 ^ 63 ≤ x) = true := decide_eq_true (by omega)
    rw [e, if_neg hs]
    simp; omega
end Go.Proofs.YtadpeebcombjnaaGreatDoor
namespace Go.Proofs.YtadpeebcombjnaaGreatDoor
open Go Go.Proofs Go.RowKit Go.Lib
set_option maxRecDepth 100000
theorem Lx.keep {base B R : Nat} {s : ByteArray} {w w' : World} {q : Nat} {lc : Int} {col : Option (List UInt8)} {te ch : Int} {pk : ByteArray} {ef : Value} (h : Lx base B R s w q lc col te ch pk ef)
    (hB : w'.heap[B]? = w.heap[B]?) (hR : w'.heap[R]? = w.heap[R]?) (ho : ∀ (g : Nat) (C : Array Value), Row w g C 5 → Row w' g C 5) : Lx base B R s w' q lc col te ch pk ef := by
  obtain ⟨C, off, p, e, tp, tb, l, hx, hlc⟩ := h
  refine ⟨C, off, p, e, tp, tb, l, ⟨hx.hB, hx.hR, hx.ne, hB.trans hx.row, hx.scn, hx.pkc, hx.rd.imp fun _ hr => hR.trans hr, ?_, hx.pe, hx.oe, hx.q, hx.ll, hx.col⟩, hlc⟩
  obtain ⟨h1, h2⟩ := hx.own
  refine ⟨h1, ?_⟩
  rcases h2 with h2 | ⟨g, cap, cur, hv, hg, hh, r⟩
  · exact .inl h2
  · exact .inr ⟨g, cap, cur, hv, hg, ho g _ hh, r⟩
theorem Ready.keep {base B R : Nat} {s : ByteArray} {w w' : World} {k : Nat} (h : Ready base B R s w k) (hb : Below base w w') (hB : w'.heap[B]? = w.heap[B]?) (hR : w'.heap[R]? = w.heap[R]?) (ho : ∀ (g : Nat) (C : Array Value), Row w g C 5 → Row w' g C 5) : Ready base B R s w' k := by
  obtain ⟨h1, h2, h3, ⟨x, h4⟩, ef, ⟨rfl, te, lc, hx⟩ | ⟨st, te, hx⟩⟩ := h
  · exact ⟨h1, h2.mono hb, h3, ⟨x, low_cell hb (by have := h2.low; omega) h4⟩, ef, .inl ⟨rfl, te, lc, hx.keep hB hR ho⟩⟩
  · exact ⟨h1, h2.mono hb, h3, ⟨x, low_cell hb (by have := h2.low; omega) h4⟩, ef, .inr ⟨st, te, hx.keep hb hB hR ho⟩⟩
theorem Ready.bnd {base B R : Nat} {s : ByteArray} {w : World} {k : Nat} (h : Ready base B R s w k) : B < w.heap.size ∧ R < w.heap.size ∧ base ≤ w.heap.size ∧ 24 ≤ base ∧ base ≤ B ∧ base ≤ R := by
  obtain ⟨h1, h2, h3, -, ef, ⟨rfl, te, lc, C, off, p, e, tp, tb, l, hx, hlc⟩ | ⟨st, te, hx⟩⟩ := h
  · exact ⟨lt_of_row hx.row, hx.rd.elim fun _ hr => lt_of_row hr, h2.heap, h2.low, h3, hx.hR⟩
  · obtain ⟨b1, b2, b3, b4, b5⟩ := hx.bw
    exact ⟨b4, b5, h2.heap, h2.low, h3, b2⟩
/-- What a call that touches nothing old leaves. -/
theorem Ready.below {base B R : Nat} {s : ByteArray} {w w' : World} {k : Nat} (h : Ready base B R s w k) (hb : Below w.heap.size w w') : Ready base B R s w' k := by
  obtain ⟨b1, b2, b3, b4, b5, b6⟩ := h.bnd
  have hb' : Below base w w' := ⟨hb.os, hb.tape, hb.output, hb.size, fun k hk => hb.block k (by omega)⟩
  exact h.keep hb' (hb.block B b1) (hb.block R b2) fun g C hg => (hb.block g (lt_of_row hg)).trans hg
theorem Fr.of_top {base B R : Nat} {w w' : World} (hb : Below w.heap.size w w') (h : base ≤ w.heap.size) : Fr base B R w w' :=
  ⟨⟨hb.os, hb.tape, hb.output, hb.size, fun k hk => hb.block k (by omega)⟩, fun k o hk _ _ _ => (hb.block k (lt_of_row hk)).trans hk⟩
/-- The texts that are given to ParseFloat. -/
def Dom (l : List UInt8) : Prop := (∃ d, (d = [] ∨ Good (49, d)) ∧ (l = d ∨ l = 45 :: d)) ∨ ∃ k, Good (k, l)
/-- strconv.ParseFloat at those texts: the number, or an error whose text can be asked. -/
structure PFC (lo : Nat) (T : World → Prop) (PF : List UInt8 → Option Nat) : Prop where
  low : 24 ≤ lo
  mono : ∀ {base : Nat} {w w' : World}, lo ≤ base → Below base w w' → T w → T w'
  lt : ∀ l x, PF l = some x → x < 2 ^ 64 ∧ (finW x = true ∨ x = 9218868437227405312 ∨ x = 9221120237041090561)
  call : ∀ (w : World) (l : List UInt8), T w → lo ≤ w.heap.size → l.length ≤ 2001 → Dom l → Calls Tryz.prog 62 #[.string ⟨l.toArray⟩, .int .i64 64] w fun e w' => Below w.heap.size w w' ∧
    match PF l with
    | some x => e = .returned (.tuple #[.float .f64 x, .nilIface])
    | none => ∃ x g, e = .returned (.tuple #[.float .f64 x, .iface 158 (.pointer (some ⟨g, 0, none⟩))]) ∧ Calls Tryz.prog 182 #[.pointer (some ⟨g, 0, none⟩)] w' fun e w'' => (∃ x, e = .returned (.string x)) ∧ Below w'.heap.size w' w''

theorem tok_len : ∀ (f : Nat) (l : List UInt8) (j : Bool) (ts : List Tok), l.length ≤ f → toksAt l j = some ts → ∀ t ∈ ts, t.2.length ≤ l.length := by
  intro f
  induction f with
  | zero =>
    intro l j ts hl h t ht
    have : l = [] := List.length_eq_zero_iff.1 (by omega)
    rw [this, toksAt_nil] at h
    rw [← Option.some.inj h] at ht
    exact absurd ht (by simp)
  | succ f ih =>
    intro l j ts hl h t ht
    cases l with
    | nil =>
      rw [toksAt_nil] at h
      rw [← Option.some.inj h] at ht
      exact absurd ht (by simp)
    | cons c r =>
      have hr : r.length ≤ f := by simp at hl; omega
      have up : ∀ {n : Nat}, n ≤ r.length → n ≤ (c :: r).length := fun h => by rw [List.length_cons]; omega
      have sg : ∀ {j' : Bool}, (toksAt r j').map (((c, [c]) : Tok) :: ·) = some ts → t.2.length ≤ (c :: r).length := by
        intro j' h
        obtain ⟨ts', e1, e2⟩ := Option.map_eq_some_iff.1 h
        rw [← e2] at ht
        rcases List.mem_cons.1 ht with e | e
        · rw [e]; simp
        · exact up (ih r j' ts' hr e1 t e)
      have bg : ∀ {n k : Nat} {j' : Bool}, 0 < n → (toksAt ((c :: r).drop n) j').map (((UInt8.ofNat k, (c :: r).take n) : Tok) :: ·) = some ts → t.2.length ≤ (c :: r).length := by
        intro n k j' hn h
        obtain ⟨ts', e1, e2⟩ := Option.map_eq_some_iff.1 h
        rw [← e2] at ht
        rcases List.mem_cons.1 ht with e | e
        · rw [e, List.length_take]; omega
        · have := ih _ j' ts' (by rw [List.length_drop]; omega) e1 t e
          rw [List.length_drop] at this
          omega
      rcases byte_view c with ⟨h1, h2⟩ | ⟨h1, h2, h3⟩ | ⟨h1, h2⟩ | ⟨_, _, h1, h2⟩
      · rw [toksAt_blank h1] at h
        exact up (ih r false ts hr h t ht)
      · rw [toksAt_sign h1, if_neg (fun e => h3 e.1)] at h
        exact sg h
      · rw [toksAt_sign (.inr (.inr (.inr h1)))] at h
        split at h
        · exact absurd h (by simp)
        exact sg h
      · by_cases hw : isLet c = true
        · rw [toksAt_word hw] at h
          split at h
          · exact absurd h (by simp)
          exact bg (k := 97) (letN_pos hw) h
        · rw [toksAt_num h1 h2 hw] at h
          split at h
          · exact absurd h (by simp)
          rename_i hn
          exact bg (k := 49) (by rcases Nat.eq_zero_or_pos (decN (c :: r)) with e | e; exact absurd (.inl e) hn; exact e) h
theorem len_good {s : ByteArray} {k : Nat} {j : Bool} {ts : List Tok} (h : toksAt ((By s).drop k) j = some ts) (hs : s.size ≤ 2000) : ∀ t ∈ ts, t.2.length ≤ 2001 := by
  intro t ht
  have := tok_len _ _ j ts (Nat.le_refl _) h t ht
  rw [List.length_drop, size_list] at this
  omega
theorem pf_split {lo : Nat} {T : World → Prop} {PF : List UInt8 → Option Nat} (C : PFC lo T PF) (l : List UInt8) : (PF l = none) ∨ (∃ x, PF l = some x ∧ finW x = true ∧ x < 2 ^ 64 ∧ PN PF l = some x) ∨ (PF l = some 9218868437227405312 ∧ PN PF l = none) ∨ (PF l = some 9221120237041090561 ∧ PN PF l = none) := by
  cases h : PF l with
  | none => exact .inl rfl
  | some x =>
    obtain ⟨h1, h2 | h2 | h2⟩ := C.lt l x h
    · exact .inr (.inl ⟨x, rfl, h2, h1, by unfold PN; rw [h, Option.filter_some, if_pos h2]⟩)
    · subst h2; exact .inr (.inr (.inl ⟨rfl, by unfold PN; rw [h]; rfl⟩))
    · subst h2; exact .inr (.inr (.inr ⟨rfl, by unfold PN; rw [h]; rfl⟩))

def NumPost (base B R : Nat) (s : ByteArray) (PF : List UInt8 → Option Nat) (ts : List Tok) (w : World) (e : Ending) (w' : World) : Prop :=
  Fr base B R w w' ∧ ((numP PF ts = none ∧ ∃ x v, IsErr v ∧ e = .returned (.tuple #[.float .f64 x, v])) ∨
    ∃ x r, numP PF ts = some (x, r) ∧ e = .returned (.tuple #[.float .f64 x, .nilIface]) ∧ ∃ n j' u, Ready base B R s w' n ∧ toksAt ((By s).drop n) j' = some r ∧ ts = u ++ r)
theorem nil_error (a : Addr) (w : World) : (nilAhead 157 158 (.pointer (some a)) "Error").run Tryz.prog w = .ok (some false) w := by kernel_rfl
theorem nil_error' (a : Addr) (w : World) : (nilAhead 369 158 (.pointer (some a)) "Error").run Tryz.prog w = .ok (some false) w := by kernel_rfl
theorem method_error' (a : Addr) (w : World) : (method 369 158 (.pointer (some a)) "Error").run Tryz.prog w = .ok (182, .pointer (some a)) w := by kernel_rfl
theorem method_error (a : Addr) (w : World) : (method 157 158 (.pointer (some a)) "Error").run Tryz.prog w = .ok (182, .pointer (some a)) w := by kernel_rfl
set_option maxHeartbeats 4000000 in
theorem num_any {lo : Nat} {T : World → Prop} {PF : List UInt8 → Option Nat} (C : PFC lo T PF) {base B R : Nat} (hlo : lo ≤ base) {s : ByteArray} {w : World} {k : Nat} (hT : T w) (h : Ready base B R s w k) {j : Bool} {ts : List Tok} (ht : toksAt ((By s).drop k) j = some ts)
    (hz : ∀ t ∈ ts, t.1 = 49 → ∀ r, t.2 = 48 :: r → digN r = 0) (hg : ∀ t ∈ ts, Good t) : Calls Tryz.prog 57 #[.pointer (some ⟨B, 0, none⟩)] w (NumPost base B R s PF ts w) := by
  have hlow := hlo
  have hsz := h.2.1.size
  have hlen := len_good ht hsz
  have hnext := lexNext h ht hz
  have HT := Lib.hid hT
  have HZ := Lib.hid hz
  have HG := Lib.hid hg
  have HL := Lib.hid hlen
  clear h ht hz hT hg hlen
  go_enter Tryz.func57, Tryz.ntmps57
  go_wp2_with fail
  go_at_call 55
  refine hnext.mono ?_
  rintro e w1 ⟨hF, ⟨hts, v, ⟨vt, vd, rfl⟩, rfl⟩ | ⟨t, ts', hts, rfl, n, j', hR, htk⟩⟩
  · have HF := Lib.hid hF
    have HTS := Lib.hid hts
    clear hF hts hnext
    go_wp2_with fail
    go_ret2
    exact ⟨HF.out, .inl ⟨by rw [HTS.out]; rfl, _, _, ⟨_, _, rfl⟩, rfl⟩⟩
  · have HF := Lib.hid hF
    have HTS := Lib.hid hts
    have HRD := Lib.hid hR
    have HTK := Lib.hid htk
    have HT1 := Lib.hid (C.mono hlow hF.below HT.out)
    clear hF hts hnext hR htk
    obtain ⟨tk, tl⟩ := t
    by_cases h1 : tl = [45]
    · subst h1
      have hnext := lexNext HRD.out HTK.out (fun t ht => HZ.out t (by rw [HTS.out]; exact List.mem_cons_of_mem _ ht))
      have HL2 : Hid (∀ t ∈ ts', t.2.length ≤ 2001) := Lib.hid (fun t ht => HL.out t (by rw [HTS.out]; exact List.mem_cons_of_mem _ ht))
      have HG2 : Hid (∀ t ∈ ts', Good t) := Lib.hid (fun t ht => HG.out t (by rw [HTS.out]; exact List.mem_cons_of_mem _ ht))
      go_wp2_with fail
      go_at_call 55
      refine hnext.mono ?_
      rintro e w2 ⟨hF2, ⟨hts2, v2, ⟨vt2, vd2, rfl⟩, rfl⟩ | ⟨t2, ts2, hts2, rfl, n2, j2, hR2, htk2⟩⟩
      · have HF2 := Lib.hid hF2
        have HTS2 := Lib.hid hts2
        clear hF2 hts2 hnext
        go_wp2_with fail
        go_ret2
        exact ⟨HF.out.trans HF2.out, .inl ⟨by rw [HTS.out, HTS2.out]; rfl, _, _, ⟨_, _, rfl⟩, rfl⟩⟩
      · have HFn := Lib.hid (HF.out.trans hF2)
        have HTS2 := Lib.hid hts2
        have HT2 := Lib.hid (C.mono hlow hF2.below HT1.out)
        have HRD2 := Lib.hid hR2
        have HTK2 := Lib.hid htk2
        clear hF2 hts2 hnext hR2 htk2 HF HT1 HRD HTK
        have HF := HFn
        have HT1 := HT2
        have HRD := HRD2
        have HTK := HTK2
        obtain ⟨uk, ul⟩ := t2
        have hmem : ((uk, ul) : Tok) ∈ ts' := by rw [HTS2.out]; exact List.mem_cons_self ..
        have HLN := Lib.hid (HL2.out _ hmem)
        have HDM : Hid (Dom ul) := Lib.hid (.inr ⟨uk, HG2.out _ hmem⟩)
        clear hmem
        have hbd := HRD.out.bnd
        have hpf := C.call w2 ul HT1.out (by omega) HLN.out HDM.out
        rcases pf_split C ul with hp | ⟨x, hp, hfx, hxl, hpn⟩ | ⟨hp, hpn⟩ | ⟨hp, hpn⟩
        · rw [hp] at hpf
          have hpn : PN PF ul = none := by unfold PN; rw [hp]; rfl
          have HPN := Lib.hid hpn
          clear hp hpn
          go_wp2_with fail
          go_at_call 62
          refine hpf.mono ?_
          rintro e w4 ⟨hb4, x, g, rfl, hErr⟩
          have HB4 := Lib.hid hb4
          clear hb4 hpf
          have hn := nil_error ⟨g, 0, none⟩
          have hm := method_error ⟨g, 0, none⟩
          have hn' := nil_error' ⟨g, 0, none⟩
          have hm' := method_error' ⟨g, 0, none⟩
          go_wp2_with (first | (go_simp; go_at_call 182; refine hErr.mono ?_; rintro e w5 ⟨⟨xs, rfl⟩, hb5⟩; have hb5 := Lib.hid hb5))
          go_ret2
          have hf4 : Fr base B R w w4 := HF.out.trans (Fr.of_top HB4.out (by omega))
          exact ⟨hf4.trans (Fr.of_top hb5.out (Nat.le_trans (by omega) HB4.out.size)), .inl ⟨by rw [HTS.out, HTS2.out]; show ((PN PF ul).map fun x => (flipW x, ts2)) = none; rw [HPN.out]; rfl, _, _, ⟨_, _, rfl⟩, rfl⟩⟩
        · rw [hp] at hpf
          have HPN := Lib.hid hpn
          clear hp hpn
          go_wp2_with fail
          go_at_call 62
          refine hpf.mono ?_
          rintro e w4 ⟨hb4, rfl⟩
          have HB4 := Lib.hid hb4
          clear hb4 hpf
          have HFX := Lib.hid hfx
          have hn1 := fun wx => isNaN_fin wx hfx hxl
          have hn2 := fun wx => isInf_fin wx hfx hxl
          have hmul := mul_flip hfx hxl
          have hrm : ∀ W, (binOp .mul 38 (.float .f64 x) (.float .f64 13830554455654793216)).run Tryz.prog W = .ok (.float .f64 (flipW x)) W := fun W => run_float_arith (w := W) .mul 38 .f64 x 13830554455654793216 (flipW x) hmul
          have HM := Lib.hid hmul
          clear hmul
          clear hfx
          go_wp2_with (first | (go_at_call 63; refine (hn1 _).mono ?_; rintro _ wq ⟨rfl, hwq⟩; rw [hwq]; clear hwq) | (go_at_call 64; refine (hn2 _).mono ?_; rintro _ wq ⟨rfl, hwq⟩; rw [hwq]; clear hwq))
          go_ret2
          have hf4 : Fr base B R w w4 := HF.out.trans (Fr.of_top HB4.out (by omega))
          exact ⟨hf4, .inr ⟨_, ts2, by rw [HTS.out, HTS2.out]; show ((PN PF ul).map fun x => (flipW x, ts2)) = _; rw [HPN.out]; rfl, rfl, n2, j2, [(tk, [45]), (uk, ul)], HRD.out.below HB4.out, HTK.out, by rw [HTS.out, HTS2.out]; rfl⟩⟩
        · rw [hp] at hpf
          have HPN := Lib.hid hpn
          clear hp hpn
          go_wp2_with fail
          go_at_call 62
          refine hpf.mono ?_
          rintro e w4 ⟨hb4, rfl⟩
          have HB4 := Lib.hid hb4
          clear hb4 hpf
          have hn1 := isNaN_inf
          have hn2 := isInf_inf
          go_wp2_with (first | (go_at_call 63; refine (hn1 _).mono ?_; rintro _ wq ⟨rfl, hwq⟩; rw [hwq]; clear hwq) | (go_at_call 64; refine (hn2 _).mono ?_; rintro _ wq ⟨rfl, hwq⟩; rw [hwq]; clear hwq))
          go_ret2
          have hf4 : Fr base B R w w4 := HF.out.trans (Fr.of_top HB4.out (by omega))
          exact ⟨hf4, .inl ⟨by rw [HTS.out, HTS2.out]; show ((PN PF ul).map fun x => (flipW x, ts2)) = none; rw [HPN.out]; rfl, _, _, ⟨_, _, rfl⟩, rfl⟩⟩
        · rw [hp] at hpf
          have HPN := Lib.hid hpn
          clear hp hpn
          go_wp2_with fail
          go_at_call 62
          refine hpf.mono ?_
          rintro e w4 ⟨hb4, rfl⟩
          have HB4 := Lib.hid hb4
          clear hb4 hpf
          have hn1 := isNaN_nan
          go_wp2_with (first | (go_at_call 63; refine (hn1 _).mono ?_; rintro _ wq ⟨rfl, hwq⟩; rw [hwq]; clear hwq))
          go_ret2
          have hf4 : Fr base B R w w4 := HF.out.trans (Fr.of_top HB4.out (by omega))
          exact ⟨hf4, .inl ⟨by rw [HTS.out, HTS2.out]; show ((PN PF ul).map fun x => (flipW x, ts2)) = none; rw [HPN.out]; rfl, _, _, ⟨_, _, rfl⟩, rfl⟩⟩
    · have e1 : (tl == [45]) = false := beq_eq_false_iff_ne.2 h1
      have HN1 := Lib.hid h1
      have hmem : ((tk, tl) : Tok) ∈ ts := by rw [HTS.out]; exact List.mem_cons_self ..
      have HLN := Lib.hid (HL.out _ hmem)
      have HDM : Hid (Dom tl) := Lib.hid (.inr ⟨tk, HG.out _ hmem⟩)
      clear hmem h1
      have hbd := HRD.out.bnd
      have hpf := C.call w1 tl HT1.out (by omega) HLN.out HDM.out
      rcases pf_split C tl with hp | ⟨x, hp, hfx, hxl, hpn⟩ | ⟨hp, hpn⟩ | ⟨hp, hpn⟩
      · rw [hp] at hpf
        have hpn : PN PF tl = none := by unfold PN; rw [hp]; rfl
        have HPN := Lib.hid hpn
        clear hp hpn
        go_wp2_with fail
        go_at_call 62
        refine hpf.mono ?_
        rintro e w4 ⟨hb4, x, g, rfl, hErr⟩
        have HB4 := Lib.hid hb4
        clear hb4 hpf
        have hn := nil_error ⟨g, 0, none⟩
        have hm := method_error ⟨g, 0, none⟩
        have hn' := nil_error' ⟨g, 0, none⟩
        have hm' := method_error' ⟨g, 0, none⟩
        go_wp2_with (first | (go_simp; go_at_call 182; refine hErr.mono ?_; rintro e w5 ⟨⟨xs, rfl⟩, hb5⟩; have hb5 := Lib.hid hb5))
        go_ret2
        have hf4 : Fr base B R w w4 := HF.out.trans (Fr.of_top HB4.out (by omega))
        exact ⟨hf4.trans (Fr.of_top hb5.out (Nat.le_trans (by omega) HB4.out.size)), .inl ⟨by rw [HTS.out, numP.eq_def]; dsimp only; rw [if_neg HN1.out, HPN.out]; rfl, _, _, ⟨_, _, rfl⟩, rfl⟩⟩
      · rw [hp] at hpf
        have HPN := Lib.hid hpn
        clear hp hpn
        go_wp2_with fail
        go_at_call 62
        refine hpf.mono ?_
        rintro e w4 ⟨hb4, rfl⟩
        have HB4 := Lib.hid hb4
        clear hb4 hpf
        have HFX := Lib.hid hfx
        have hn1 := fun wx => isNaN_fin wx hfx hxl
        have hn2 := fun wx => isInf_fin wx hfx hxl
        clear hfx
        go_wp2_with (first | (go_at_call 63; refine (hn1 _).mono ?_; rintro _ wq ⟨rfl, hwq⟩; rw [hwq]; clear hwq) | (go_at_call 64; refine (hn2 _).mono ?_; rintro _ wq ⟨rfl, hwq⟩; rw [hwq]; clear hwq))
        go_ret2
        have hf4 : Fr base B R w w4 := HF.out.trans (Fr.of_top HB4.out (by omega))
        exact ⟨hf4, .inr ⟨_, ts', by rw [HTS.out, numP.eq_def]; dsimp only; rw [if_neg HN1.out, HPN.out]; rfl, rfl, n, j', [(tk, tl)], HRD.out.below HB4.out, HTK.out, HTS.out⟩⟩
      · rw [hp] at hpf
        have HPN := Lib.hid hpn
        clear hp hpn
        go_wp2_with fail
        go_at_call 62
        refine hpf.mono ?_
        rintro e w4 ⟨hb4, rfl⟩
        have HB4 := Lib.hid hb4
        clear hb4 hpf
        have hn1 := isNaN_inf
        have hn2 := isInf_inf
        go_wp2_with (first | (go_at_call 63; refine (hn1 _).mono ?_; rintro _ wq ⟨rfl, hwq⟩; rw [hwq]; clear hwq) | (go_at_call 64; refine (hn2 _).mono ?_; rintro _ wq ⟨rfl, hwq⟩; rw [hwq]; clear hwq))
        go_ret2
        have hf4 : Fr base B R w w4 := HF.out.trans (Fr.of_top HB4.out (by omega))
        exact ⟨hf4, .inl ⟨by rw [HTS.out, numP.eq_def]; dsimp only; rw [if_neg HN1.out, HPN.out]; rfl, _, _, ⟨_, _, rfl⟩, rfl⟩⟩
      · rw [hp] at hpf
        have HPN := Lib.hid hpn
        clear hp hpn
        go_wp2_with fail
        go_at_call 62
        refine hpf.mono ?_
        rintro e w4 ⟨hb4, rfl⟩
        have HB4 := Lib.hid hb4
        clear hb4 hpf
        have hn1 := isNaN_nan
        go_wp2_with (first | (go_at_call 63; refine (hn1 _).mono ?_; rintro _ wq ⟨rfl, hwq⟩; rw [hwq]; clear hwq))
        go_ret2
        have hf4 : Fr base B R w w4 := HF.out.trans (Fr.of_top HB4.out (by omega))
        exact ⟨hf4, .inl ⟨by rw [HTS.out, numP.eq_def]; dsimp only; rw [if_neg HN1.out, HPN.out]; rfl, _, _, ⟨_, _, rfl⟩, rfl⟩⟩
end Go.Proofs.YtadpeebcombjnaaGreatDoor
