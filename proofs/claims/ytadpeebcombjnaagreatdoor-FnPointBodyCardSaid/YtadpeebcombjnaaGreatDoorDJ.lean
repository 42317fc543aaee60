/- The walk through floatBits. -/
import Derived.Test.YtadpeebcombjnaaGreatDoorDFDI
import Derived.WalkMore
import Derived.Deep.CutBlock
namespace Go.Proofs.YtadpeebcombjnaaGreatDoor
open Go Go.Proofs Go.RowKit Go.Lib
set_option maxRecDepth 100000
/-- As Q; by a goto to label l: J l. -/
def Exit.lab (J : Nat → Act → World → Prop) (Q : Exit → Act → World → Prop) : Exit → Act → World → Prop
  | .goto l, a, w => J l a w
  | e, a, w => Q e a w
theorem Exit.lab_ret {J : Nat → Act → World → Prop} {Q : Exit → Act → World → Prop} {a : Act} {w : World} : Exit.lab J Q .ret a w = Q .ret a w := rfl
/-- A scope with two labels, of which the second is never jumped to from behind the first. -/
theorem wp_scope_lab {P : Program} {a : Act} {w : World} {Q : Exit → Act → World → Prop} {c r0 r1 : Code} (J0 J1 : Act → World → Prop) (h0 : findLabel c 0 = some r0) (h1 : findLabel c 1 = some r1)
    (first : c.wp P (Exit.lab (fun l a w => l = 0 ∧ J0 a w ∨ l = 1 ∧ J1 a w) Q) a w)
    (p1 : ∀ a w, J1 a w → r1.wp P (Exit.noGoto Q) a w) (p0 : ∀ a w, J0 a w → r0.wp P (Exit.noGoto Q) a w) : (Code.scope c).wp P Q a w := by
  intro b k cs
  have key : ∀ (l : Nat) (rest : Code) a w, findLabel c l = some rest → rest.wp P (Exit.noGoto Q) a w → ∃ e a' w', Q e a' w' ∧ Arrives P (lone (b.at a (.code rest :: .inScope c :: k)) cs w) b k cs e a' w' := by
    intro l rest a w hf hr
    obtain ⟨e, a₁, w₁, hq, harr⟩ := hr b (.inScope c :: k) cs
    cases e with
    | normal => exact ⟨.normal, a₁, w₁, hq, Steps.trans harr (.one step_inScope)⟩
    | exit id => exact ⟨.exit id, a₁, w₁, hq, fun k' hk => harr k' (by simp [exitTo, hk])⟩
    | goto l' => exact hq.elim
    | ret => exact ⟨_, a₁, w₁, hq, harr⟩
    | panic ch => exact ⟨_, a₁, w₁, hq, harr⟩
    | outgrown => exact ⟨_, a₁, w₁, hq, harr⟩
  obtain ⟨e, a₁, w₁, hq, harr⟩ := first b (.inScope c :: k) cs
  cases e with
  | normal => exact ⟨.normal, a₁, w₁, hq, .head step_scope (Steps.trans harr (.one step_inScope))⟩
  | exit id => exact ⟨.exit id, a₁, w₁, hq, fun k' hk => .head step_scope (harr k' (by simp [exitTo, hk]))⟩
  | goto l' =>
    have hg : ∀ rest, findLabel c l' = some rest → gotoIn l' (.inScope c :: k) = some (.code rest :: .inScope c :: k) := fun rest hf => by simp [gotoIn, hf]
    rcases hq with ⟨rfl, hJ⟩ | ⟨rfl, hJ⟩
    · obtain ⟨e₂, a₂, w₂, hq₂, harr₂⟩ := key 0 r0 a₁ w₁ h0 (p0 _ _ hJ)
      exact ⟨e₂, a₂, w₂, hq₂, .of_steps (.head step_scope (harr _ (hg _ h0))) harr₂⟩
    · obtain ⟨e₂, a₂, w₂, hq₂, harr₂⟩ := key 1 r1 a₁ w₁ h1 (p1 _ _ hJ)
      exact ⟨e₂, a₂, w₂, hq₂, .of_steps (.head step_scope (harr _ (hg _ h1))) harr₂⟩
  | ret => exact ⟨_, a₁, w₁, hq, .of_steps (.one step_scope) harr⟩
  | panic ch => exact ⟨_, a₁, w₁, hq, .of_steps (.one step_scope) harr⟩
  | outgrown => exact ⟨_, a₁, w₁, hq, .of_steps (.one step_scope) harr⟩
theorem and_low (m : Nat) (hm : m < 2 ^ 64) : bits BinOp.and IntKind.u64 (m : Int) 4503599627370495 = ((m % 4503599627370496 : Nat) : Int) := by
  have h := u64_and_nat m 4503599627370495 (by omega) (by decide)
  have e : ((4503599627370495 : Nat) : Int) = 4503599627370495 := rfl
  rw [e] at h
  rw [h, show (4503599627370495 : Nat) = 2 ^ 52 - 1 from by decide, Nat.and_two_pow_sub_one_eq_mod]
theorem and_exp (y : Nat) (hy : y ≤ 2047) : bits BinOp.and IntKind.i64 (y : Int) 2047 = (y : Int) := by
  have h : ∀ y : Fin 2048, bits BinOp.and IntKind.i64 (y.val : Int) 2047 = (y.val : Int) := by decide +kernel
  exact h ⟨y, by omega⟩
theorem or_parts (a y : Nat) (ha : a < 4503599627370496) (hy : y ≤ 2047) : bits BinOp.or IntKind.u64 (a : Int) ((y : Int) * 4503599627370496) = ((a + y * 4503599627370496 : Nat) : Int) := by
  have h := u64_or_nat a (y * 4503599627370496) (by omega) (by omega)
  have e : ((y * 4503599627370496 : Nat) : Int) = (y : Int) * 4503599627370496 := by omega
  rw [e] at h
  have h2 := Nat.two_pow_add_eq_or_of_lt (i := 52) (b := a) (by omega) y
  rw [h, Nat.or_comm, show y * 4503599627370496 = 2 ^ 52 * y from by omega, ← h2]
  congr 1; omega
theorem or_sign (x : Nat) (hx : x < 9223372036854775808) : bits BinOp.or IntKind.u64 (x : Int) 9223372036854775808 = ((x + 9223372036854775808 : Nat) : Int) := by
  have h := u64_or_nat x 9223372036854775808 (by omega) (by decide)
  have e : ((9223372036854775808 : Nat) : Int) = 9223372036854775808 := rfl
  rw [e] at h
  have h2 := Nat.two_pow_add_eq_or_of_lt (i := 63) (b := x) (by omega) 1
  rw [h, Nat.or_comm, show (9223372036854775808 : Nat) = 2 ^ 63 * 1 from by decide, ← h2]
  congr 1; omega
theorem and_bit (m : Nat) (hm : m < 2 ^ 64) : (bits BinOp.and IntKind.u64 (m : Int) 4503599627370496 == 0) = decide (m / 4503599627370496 % 2 = 0) := by
  have h := u64_and_nat m 4503599627370496 (by omega) (by decide)
  have e : ((4503599627370496 : Nat) : Int) = 4503599627370496 := rfl
  rw [e] at h
  have h3 := and_two_pow_eq_zero (m : Int) 52 (by omega)
  rw [Int.toNat_natCast, show ((2 : Int) ^ 52).toNat = 4503599627370496 from by decide] at h3
  rw [h, Bool.eq_iff_iff, beq_iff_eq, decide_eq_true_eq]
  constructor
  · intro h4
    have h5 := h3.1 (by omega)
    omega
  · intro h4
    have h5 := h3.2 (by omega)
    omega
def FbPost (g : Nat) (s : DSt) (neg : Bool) (w : World) (e : Ending) (w' : World) : Prop := Mod (· = g) w w' ∧ e = .returned (.tuple #[.int .u64 ((fbW (fbT s) + (if neg = true then 9223372036854775808 else 0) : Nat)), .bool (fbT s).2.2])
theorem FbPost.of {g : Nat} {s : DSt} {neg : Bool} {w w' : World} {x : Nat} {o : Bool} {v : Int} (hm : Mod (· = g) w w') (h1 : fbW (fbT s) = x) (h2 : (fbT s).2.2 = o) (hv : v = ((x + (if neg = true then 9223372036854775808 else 0) : Nat) : Int)) : FbPost g s neg w (.returned (.tuple #[.int .u64 v, .bool o])) w' := by
  subst hv h1 h2
  exact ⟨hm, rfl⟩
def litO (g : Nat) (m : Nat) (ex : Int) (o : Bool) (F : Nat → Value) : Array Value := #[.pointer (some ⟨g, 0, none⟩), .pointer (some ⟨10, 0, none⟩), F 2, F 3, F 4, .bool o, .int .i64 ex, .int .u64 (m : Nat), F 8, F 9, F 10, F 11, F 12, F 13, F 14, F 15, F 16, F 17, F 18, F 19, F 20, F 21, F 22, F 23, F 24, F 25, F 26, F 27, F 28, F 29, F 30, F 31, F 32, F 33, F 34, F 35, F 36, F 37, F 38, F 39, F 40, F 41, F 42, F 43, F 44, F 45, F 46, F 47, F 48, F 49, F 50, F 51, F 52, F 53, F 54, F 55, F 56, F 57, F 58, F 59, F 60, F 61, F 62, F 63, F 64, F 65, F 66, F 67, F 68, F 69, F 70, F 71, F 72, F 73, F 74, F 75, F 76, F 77, F 78, F 79, F 80, F 81, F 82, F 83, F 84, F 85, F 86, F 87, F 88, F 89, F 90, F 91, F 92, F 93, F 94, F 95, F 96, F 97, F 98, F 99, F 100, F 101, F 102, F 103, F 104, F 105, F 106, F 107, F 108, F 109, F 110, F 111, F 112, F 113, F 114, F 115, F 116, F 117, F 118, F 119, F 120, F 121, F 122, F 123, F 124, F 125, F 126, F 127, F 128, F 129, F 130, F 131, F 132, F 133, F 134, F 135, F 136, F 137, F 138, F 139, F 140, F 141, F 142, F 143, F 144, F 145, F 146, F 147, F 148, F 149, F 150, F 151, F 152, F 153, F 154, F 155, F 156, F 157, F 158, F 159, F 160, F 161, F 162, F 163, F 164, F 165, F 166, F 167, F 168, F 169, F 170, F 171, F 172, F 173, F 174, F 175, F 176, F 177, F 178, F 179, F 180, F 181, F 182, F 183, F 184, F 185, F 186, F 187, F 188, F 189, F 190, F 191, F 192, F 193, F 194, F 195, F 196, F 197, F 198, F 199, F 200, F 201, F 202, F 203, F 204, F 205, F 206, F 207, F 208, F 209, F 210, F 211, F 212, F 213, F 214, F 215, F 216, F 217, F 218, F 219, F 220, F 221, F 222, F 223, F 224, F 225, F 226, F 227, F 228, F 229, F 230, F 231, F 232, F 233, F 234, F 235, F 236, F 237, F 238, F 239, F 240, F 241, F 242]
def litV (g : Nat) (F : Nat → Value) : Array Value := #[.pointer (some ⟨g, 0, none⟩), .pointer (some ⟨10, 0, none⟩), F 2, F 3, F 4, F 5, F 6, F 7, F 8, F 9, F 10, F 11, F 12, F 13, F 14, F 15, F 16, F 17, F 18, F 19, F 20, F 21, F 22, F 23, F 24, F 25, F 26, F 27, F 28, F 29, F 30, F 31, F 32, F 33, F 34, F 35, F 36, F 37, F 38, F 39, F 40, F 41, F 42, F 43, F 44, F 45, F 46, F 47, F 48, F 49, F 50, F 51, F 52, F 53, F 54, F 55, F 56, F 57, F 58, F 59, F 60, F 61, F 62, F 63, F 64, F 65, F 66, F 67, F 68, F 69, F 70, F 71, F 72, F 73, F 74, F 75, F 76, F 77, F 78, F 79, F 80, F 81, F 82, F 83, F 84, F 85, F 86, F 87, F 88, F 89, F 90, F 91, F 92, F 93, F 94, F 95, F 96, F 97, F 98, F 99, F 100, F 101, F 102, F 103, F 104, F 105, F 106, F 107, F 108, F 109, F 110, F 111, F 112, F 113, F 114, F 115, F 116, F 117, F 118, F 119, F 120, F 121, F 122, F 123, F 124, F 125, F 126, F 127, F 128, F 129, F 130, F 131, F 132, F 133, F 134, F 135, F 136, F 137, F 138, F 139, F 140, F 141, F 142, F 143, F 144, F 145, F 146, F 147, F 148, F 149, F 150, F 151, F 152, F 153, F 154, F 155, F 156, F 157, F 158, F 159, F 160, F 161, F 162, F 163, F 164, F 165, F 166, F 167, F 168, F 169, F 170, F 171, F 172, F 173, F 174, F 175, F 176, F 177, F 178, F 179, F 180, F 181, F 182, F 183, F 184, F 185, F 186, F 187, F 188, F 189, F 190, F 191, F 192, F 193, F 194, F 195, F 196, F 197, F 198, F 199, F 200, F 201, F 202, F 203, F 204, F 205, F 206, F 207, F 208, F 209, F 210, F 211, F 212, F 213, F 214, F 215, F 216, F 217, F 218, F 219, F 220, F 221, F 222, F 223, F 224, F 225, F 226, F 227, F 228, F 229, F 230, F 231, F 232, F 233, F 234, F 235, F 236, F 237, F 238, F 239, F 240, F 241, F 242]
/-- What holds at the label 'out'. -/
def FbOut (lo g : Nat) (neg : Bool) (s : DSt) (w : World) (a : Act) (w1 : World) : Prop :=
  ∃ (F : Nat → Value) (m : Nat) (ex : Int) (o : Bool), a = { tmps := litO g m ex o F, defers := [] } ∧ Hid (Mod (· = g) w w1) ∧ Hid (Tabs lo w1) ∧ Hid (∃ t, Dw w1 g t neg) ∧ Hid (fbT s = (m, ex, o)) ∧ m < 2 ^ 64 ∧ -1023 ≤ ex ∧ ex ≤ 1024
/-- What holds at the label 'overflow'. -/
def FbOver (lo g : Nat) (neg : Bool) (s : DSt) (w : World) (a : Act) (w1 : World) : Prop :=
  ∃ F : Nat → Value, a = { tmps := litV g F, defers := [] } ∧ Hid (Mod (· = g) w w1) ∧ Hid (Tabs lo w1) ∧ Hid (∃ t, Dw w1 g t neg) ∧ Hid (fbT s = (0, 1024, true))
theorem FbOut.of {lo g : Nat} {neg : Bool} {s : DSt} {w : World} {a : Act} {w1 : World} (m : Nat) (ex : Int) (o : Bool) (ha : a = { tmps := litO g m ex o (fun i => a.tmps.getD i undef), defers := [] }) (h1 : Mod (· = g) w w1) (h2 : Tabs lo w1) (h3 : ∃ t, Dw w1 g t neg) (h4 : fbT s = (m, ex, o)) (h5 : m < 2 ^ 64) (h6 : -1023 ≤ ex) (h7 : ex ≤ 1024) : FbOut lo g neg s w a w1 :=
  ⟨_, m, ex, o, ha, Lib.hid h1, Lib.hid h2, Lib.hid h3, Lib.hid h4, h5, h6, h7⟩
theorem FbOver.of {lo g : Nat} {neg : Bool} {s : DSt} {w : World} {a : Act} {w1 : World} (ha : a = { tmps := litV g (fun i => a.tmps.getD i undef), defers := [] }) (h1 : Mod (· = g) w w1) (h2 : Tabs lo w1) (h3 : ∃ t, Dw w1 g t neg) (h4 : fbT s = (0, 1024, true)) : FbOver lo g neg s w a w1 :=
  ⟨_, ha, Lib.hid h1, Lib.hid h2, Lib.hid h3, Lib.hid h4⟩
set_option maxHeartbeats 8000000 in
theorem fb_any {lo g : Nat} {s : DSt} {neg : Bool} {w : World} (hT : Tabs lo w) (hg : lo ≤ g) (hw : lo ≤ w.heap.size) (hd : Dw w g s neg) (ho : s.nd = 0 ∨ s.ok) (hdp : -100000000 ≤ s.dp ∧ s.dp ≤ 100000000) :
    Calls Tryz.prog 118 #[.pointer (some ⟨g, 0, none⟩), .pointer (some ⟨10, 0, none⟩)] w (FbPost g s neg w) := by
  have HT := Lib.hid hT
  have HD := Lib.hid hd
  have HO := Lib.hid ho
  clear hT hd ho
  go_enter Tryz.func118, Tryz.ntmps118
  go_wp2_with fail
  refine wp_scope_lab (r0 := ?r0) (r1 := ?r1) (FbOut lo g neg s w) (FbOver lo g neg s w) ?h0 ?h1 ?first ?p1 ?p0
  case h0 => exact rfl
  case h1 => exact rfl
  · obtain ⟨C, hrow, hc⟩ := HD.out
    have c0 : w.cell? ⟨g, 800, none⟩ = some (.int .i64 (s.nd : Nat)) := hrow.cell hc.cnd
    have c1 : w.cell? ⟨g, 801, none⟩ = some (.int .i64 s.dp) := hrow.cell hc.cdp
    have i2 := HT.out.info.2.2
    clear hrow hc
    by_cases h0 : s.nd = 0
    · rw [h0] at c0
      have c0 : w.cell? ⟨g, 800, none⟩ = some (.int .i64 0) := c0
      have HF : Hid (fbT s = (0, -1023, false)) := Lib.hid (if_pos h0)
      clear h0 c1
      go_wp2_with fail
      go_step3
      exact .inl ⟨rfl, FbOut.of 0 (-1023) false rfl (Mod.refl _ _) HT.out ⟨s, HD.out⟩ HF.out (by decide) (by decide) (by decide)⟩
    have ho := HO.out.resolve_left h0
    have hb0 : ((s.nd : Int) == 0) = false := by rw [beq_eq_false_iff_ne]; omega
    by_cases h310 : 310 < s.dp
    · have HF : Hid (fbT s = (0, 1024, true)) := Lib.hid ((if_neg h0).trans (if_pos h310))
      clear h0
      go_wp2_with fail
      go_step3
      exact .inr ⟨rfl, FbOver.of rfl (Mod.refl _ _) HT.out ⟨s, HD.out⟩ HF.out⟩
    by_cases h330 : s.dp < -330
    · have HF : Hid (fbT s = (0, -1023, false)) := Lib.hid ((if_neg h0).trans ((if_neg h310).trans (if_pos h330)))
      have h310' : ¬ (310 : Int) < s.dp := h310
      clear h0
      go_wp2_with fail
      go_step3
      exact .inl ⟨rfl, FbOut.of 0 (-1023) false rfl (Mod.refl _ _) HT.out ⟨s, HD.out⟩ HF.out (by decide) (by decide) (by decide)⟩
    have HF : Hid (fbT s = fbM s) := Lib.hid ((if_neg h0).trans ((if_neg h310).trans (if_neg h330)))
    have HOK := Lib.hid ho
    have hms : meas1 s ≤ 700 := by
      unfold meas1
      have : (if 8 ≤ s.lead then 1 else 0) ≤ 1 := by split <;> omega
      omega
    have HMS := Lib.hid hms
    clear h0 ho hdp hms
    go_upto_block 0 with (fail)
    go_cut [6] from 35 to 60 (fun ve wx => ∃ (t : DSt) (e : Int), ve = .int .i64 e ∧ 0 ≤ e ∧ e ≤ 18900 ∧ -330 ≤ t.dp ∧ t.dp ≤ 0 ∧ Hid (fl1 700 s 0 = (t, e)) ∧ Hid t.ok ∧ Hid (Mod (· = g) w wx) ∧ Hid (Dw wx g t neg))
    case first =>
      go_wp2_with fail
      go_loopg [6] 700 (fun gh ve wr => ∃ (t : DSt) (e : Int), ve = .int .i64 e ∧ 0 ≤ e ∧ e + 27 * gh ≤ 18900 ∧ -330 ≤ t.dp ∧ t.dp ≤ 310 ∧ Hid (meas1 t ≤ gh) ∧ Hid (fl1 700 s 0 = fl1 gh t e) ∧ Hid t.ok ∧ Hid (Mod (· = g) w wr) ∧ Hid (Dw wr g t neg))
      case atStart => exact ⟨s, 0, rfl, by decide, by decide, by omega, by omega, HMS, Lib.hid rfl, HOK, Lib.hid (Mod.refl _ _), HD⟩
      case round =>
        clear c0 c1 hb0 h310 h330
        obtain ⟨t, e, rfl, he0, he1, hd1, hd2, HMe, HFL, HTO, HM, HDW⟩ := hrel
        obtain ⟨C, hrow, hc⟩ := HDW.out
        have c1 : wr.cell? ⟨g, 801, none⟩ = some (.int .i64 t.dp) := hrow.cell hc.cdp
        clear hrow hc
        have HT1 := Lib.hid (HT.out.mod hg hw HM.out)
        by_cases hpos : 0 < t.dp
        · obtain ⟨n, rfl⟩ : ∃ n, gk = n + 1 := ⟨gk - 1, by have := HMe.out; unfold meas1 at this; omega⟩
          obtain ⟨d, hd⟩ : ∃ d : Nat, t.dp = (d : Int) := ⟨t.dp.toNat, by omega⟩
          have hst := step1 HTO.out hpos
          have hfl : fl1 (n + 1) t e = fl1 n (dsRs (pw t.dp.toNat) t) (e + (pw t.dp.toNat : Nat)) := by rw [fl1, if_pos hpos]
          rw [hd, Int.toNat_natCast] at hst hfl
          have HST := Lib.hid hst
          have HFL2 := Lib.hid hfl
          obtain ⟨pb, po, pc, pbl, pcell, ptab⟩ := HT1.out.pow
          rw [hd] at c1 hpos hd2
          have hsh := fun q => shiftR_any (w := wr.drewN q) (n := pw d) (Dc.drewN HDW.out q) HTO.out (pw_le d).1 (by have := (pw_le d).2; omega) (by omega)
          obtain ⟨p, hp⟩ : ∃ p, pw d = p := ⟨_, rfl⟩
          rw [hp] at hsh HST HFL2
          have hp27 := pw_le d
          rw [hp] at hp27
          have HDD := Lib.hid hd
          by_cases h9 : 9 ≤ d
          · have h9' : (9 : Int) ≤ (d : Int) := by omega
            have hp2 : p = 27 := by rw [← hp]; exact if_pos h9
            subst hp2
            clear hst hfl hd hp ptab
            go_wp2_with fail
            go_quiet (fail)
            go_wp2_with fail
            refine (hsh _).mono ?_
            rintro _ w2 ⟨rfl, hm2, hd2⟩
            have HM2 := Lib.hid ((HM.out.drewN nq).trans hm2 (fun _ _ h => h))
            have HD2 := Lib.hid hd2
            clear hm2 hd2 hsh
            go_wp2_with fail
            go_roundg n
            case measure => omega
            case rel => exact ⟨dsRs 27 t, e + 27, rfl, by omega, by omega, by have := HST.out.2.2.1; omega, by have := HST.out.2.2.2; have := HDD.out; omega, Lib.hid (by have := HST.out.2.1; have := HMe.out; omega), Lib.hid (HFL.out.trans HFL2.out), Lib.hid HST.out.1, HM2, HD2⟩
          · have h9' : ¬ (9 : Int) ≤ (d : Int) := by omega
            have h9'' : (d : Int) < 9 := by omega
            have hp2 : pwt d = p := by rw [← hp]; exact (if_neg h9).symm
            have hc2 := ptab d (by omega)
            rw [hp2] at hc2
            clear hst hfl hd hp ptab hp2
            go_wp2_with fail
            go_quiet (fail)
            go_wp2_with fail
            go_quiet (fail)
            go_wp2_with fail
            refine (hsh _).mono ?_
            rintro _ w2 ⟨rfl, hm2, hd2⟩
            have HM2 := Lib.hid ((HM.out.drewN _).trans hm2 (fun _ _ h => h))
            have HD2 := Lib.hid hd2
            clear hm2 hd2 hsh
            go_wp2_with fail
            go_roundg n
            case measure => omega
            case rel => exact ⟨dsRs p t, e + p, rfl, by omega, by omega, by have := HST.out.2.2.1; omega, by have := HST.out.2.2.2; have := HDD.out; omega, Lib.hid (by have := HST.out.2.1; have := HMe.out; omega), Lib.hid (HFL.out.trans HFL2.out), Lib.hid HST.out.1, HM2, HD2⟩
        · have HFZ : Hid (fl1 gk t e = (t, e)) := Lib.hid (by cases gk with | zero => rfl | succ n => rw [fl1, if_neg hpos])
          go_wp2_with fail
          go_meet
          exact ⟨t, e, rfl, he0, by omega, hd1, by omega, Lib.hid (HFL.out.trans HFZ.out), HTO, HM, HDW⟩
    case rest =>
      clear c0 c1 hb0 h310 h330
      obtain ⟨t0, e0, rfl, he0, he1, hd1, hd2, HFL1, HTO0, HM0, HDW0⟩ := hcut
      go_upto_block 2 with (fail)
      go_cut [6] from 61 to 102 (fun ve wx => ∃ (t : DSt) (e : Int), ve = .int .i64 e ∧ -91800 ≤ e ∧ e ≤ 18900 ∧ t.dp = 0 ∧ Hid (fl2 3400 t0 e0 = (t, e)) ∧ Hid t.ok ∧ Hid (Mod (· = g) w wx) ∧ Hid (Dw wx g t neg))
      case first =>
        have hms2 : meas2 t0 ≤ 3400 := by unfold meas2; omega
        have HMS2 := Lib.hid hms2
        clear hms2
        go_wp2_with fail
        go_loopg [6] 3400 (fun gh ve wr => ∃ (t : DSt) (e : Int), ve = .int .i64 e ∧ -91800 + 27 * gh ≤ e ∧ e ≤ 18900 ∧ -330 ≤ t.dp ∧ t.dp ≤ 0 ∧ Hid (meas2 t ≤ gh) ∧ Hid (fl2 3400 t0 e0 = fl2 gh t e) ∧ Hid t.ok ∧ Hid (Mod (· = g) w wr) ∧ Hid (Dw wr g t neg))
        case atStart => exact ⟨t0, e0, rfl, by omega, he1, hd1, hd2, HMS2, Lib.hid rfl, HTO0, HM0, HDW0⟩
        case round =>
          clear HTO0 HM0 HDW0 hd1 hd2 he0 he1
          obtain ⟨t, e, rfl, he0, he1, hd1, hd2, HMe, HFL, HTO, HM, HDW⟩ := hrel
          obtain ⟨C, hrow, hc⟩ := HDW.out
          have c1 : wr.cell? ⟨g, 801, none⟩ = some (.int .i64 t.dp) := hrow.cell hc.cdp
          have c2 := hrow.cell (hc.dig 0 HTO.out.pos)
          have hl9 := HTO.out.lead9
          have hlead : dgt t.P (t.nd - 1 - 0) = t.lead := by
            unfold dgt DSt.lead
            rw [Nat.sub_zero, Nat.mod_eq_of_lt]
            have := hl9
            unfold DSt.lead at this
            omega
          rw [hlead] at c2
          obtain ⟨ld, hld⟩ : ∃ ld, t.lead = ld := ⟨_, rfl⟩
          rw [hld] at c2 hl9
          obtain ⟨x, hx⟩ : ∃ x, 48 + ld = x := ⟨_, rfl⟩
          rw [hx] at c2
          clear hrow hc hlead
          have HT1 := Lib.hid (HT.out.mod hg hw HM.out)
          obtain ⟨d, hd⟩ : ∃ d : Nat, t.dp = -(d : Int) := ⟨(-t.dp).toNat, by omega⟩
          by_cases hgo : t.dp < 0 ∨ t.dp = 0 ∧ t.lead < 5
          · obtain ⟨n, rfl⟩ : ∃ n, gk = n + 1 := ⟨gk - 1, by have := HMe.out; unfold meas2 at this; omega⟩
            have hst := step2 HTO.out hd2 hgo
            have hfl : fl2 (n + 1) t e = fl2 n (dsL (pw (-t.dp).toNat) t) (e - (pw (-t.dp).toNat : Nat)) := by rw [fl2, if_pos hgo]
            rw [hd, Int.neg_neg, Int.toNat_natCast] at hst hfl
            have HST := Lib.hid hst
            have HFL2 := Lib.hid hfl
            obtain ⟨pb, po, pc, pbl, pcell, ptab⟩ := HT1.out.pow
            have hgo2 : (decide (t.dp < 0) = true ∧ True) ∨ (decide (t.dp < 0) = false ∧ (t.dp == 0) = true ∧ decide ((x : Int) < 53) = true) := by
              rcases hgo with h | ⟨h, h'⟩
              · exact .inl ⟨decide_eq_true h, trivial⟩
              · exact .inr ⟨decide_eq_false (by omega), by rw [beq_iff_eq]; exact h, decide_eq_true (by omega)⟩
            rw [hd] at c1 hgo2 hd1 hd2
            have hsh := fun q => shiftL_any (w := wr.drewN q) (k := pw d) (lo := lo) (HT.out.mod hg hw (HM.out.drewN q)) hg (Dc.drewN HDW.out q) HTO.out (pw_le d).1 (by have := (pw_le d).2; omega) (by omega)
            obtain ⟨p, hp⟩ : ∃ p, pw d = p := ⟨_, rfl⟩
            rw [hp] at hsh HST HFL2
            have hp27 := pw_le d
            rw [hp] at hp27
            have HDD := Lib.hid hd
            have HREL : Hid ((dsL p t).ok ∧ meas2 (dsL p t) ≤ n ∧ -330 ≤ (dsL p t).dp ∧ (dsL p t).dp ≤ 0 ∧ fl2 3400 t0 e0 = fl2 n (dsL p t) (e - p)) := Lib.hid ⟨HST.out.1, by have := HST.out.2.1; have := HMe.out; omega, by have := HST.out.2.2.1; have := HDD.out; omega, by have := HST.out.2.2.2; omega, HFL.out.trans HFL2.out⟩
            by_cases h9 : 9 ≤ d
            · have h9' : (9 : Int) ≤ (d : Int) := by omega
              have hp2 : p = 27 := by rw [← hp]; exact if_pos h9
              subst hp2
              clear hst hfl hd hp ptab hgo hx hld HST HFL2 HDD
              rcases hgo2 with ⟨g1, _⟩ | ⟨g1, g2, g3⟩
              all_goals
                go_wp2_with fail
                go_quiet (fail)
                go_wp2_with fail
                refine (hsh _).mono ?_
                rintro _ w2 ⟨rfl, hm2, hdd2⟩
                have HM2 := Lib.hid ((HM.out.drewN nq).trans hm2 (fun _ _ h => h))
                have HD2 := Lib.hid hdd2
                clear hm2 hdd2 hsh
                go_wp2_with fail
                go_roundg n
                case measure => omega
                case rel => exact ⟨dsL 27 t, e - 27, rfl, by omega, by omega, HREL.out.2.2.1, HREL.out.2.2.2.1, Lib.hid HREL.out.2.1, Lib.hid HREL.out.2.2.2.2, Lib.hid HREL.out.1, HM2, HD2⟩
            · have h9' : ¬ (9 : Int) ≤ (d : Int) := by omega
              have h9'' : (d : Int) < 9 := by omega
              have hd0 : (0 : Int) ≤ (d : Int) := by omega
              have hp2 : pwt d = p := by rw [← hp]; exact (if_neg h9).symm
              have hc2 := ptab d (by omega)
              rw [hp2] at hc2
              clear hst hfl hp ptab hgo hld HST HFL2 hp2
              rcases hgo2 with ⟨g1, _⟩ | ⟨g1, g2, g3⟩
              · have hdp1 : 0 < d := by have := of_decide_eq_true g1; omega
                have g1 : decide (0 < d) = true := decide_eq_true hdp1
                clear hd hx HDD
                go_wp2_with fail
                go_quiet (fail)
                go_wp2_with fail
                go_quiet (fail)
                go_wp2_with fail
                refine (hsh _).mono ?_
                rintro _ w2 ⟨rfl, hm2, hdd2⟩
                have HM2 := Lib.hid ((HM.out.drewN _).trans hm2 (fun _ _ h => h))
                have HD2 := Lib.hid hdd2
                clear hm2 hdd2 hsh
                go_wp2_with fail
                go_roundg n
                case measure => omega
                case rel => exact ⟨dsL p t, e - p, rfl, by omega, by omega, HREL.out.2.2.1, HREL.out.2.2.2.1, Lib.hid HREL.out.2.1, Lib.hid HREL.out.2.2.2.2, Lib.hid HREL.out.1, HM2, HD2⟩
              · have hd00 : d = 0 := by rw [beq_iff_eq] at g2; omega
                subst hd00
                have c1 : wr.cell? ⟨g, 801, none⟩ = some (.int .i64 0) := c1
                have hc2 : wr.cell? ⟨pb, po, none⟩ = some (.int .i64 (p : Nat)) := hc2
                have g1 : decide ((0 : Int) < 0) = false := rfl
                have g2 : ((0 : Int) == 0) = true := rfl
                have hw0 : IntKind.i64.wrap 0 = 0 := rfl
                clear hd hx HDD
                go_wp2_with fail
                go_quiet (fail)
                go_wp2_with fail
                go_quiet (fail)
                go_wp2_with fail
                refine (hsh _).mono ?_
                rintro _ w2 ⟨rfl, hm2, hdd2⟩
                have HM2 := Lib.hid ((HM.out.drewN _).trans hm2 (fun _ _ h => h))
                have HD2 := Lib.hid hdd2
                clear hm2 hdd2 hsh
                go_wp2_with fail
                go_roundg n
                case measure => omega
                case rel => exact ⟨dsL p t, e - p, rfl, by omega, by omega, HREL.out.2.2.1, HREL.out.2.2.2.1, Lib.hid HREL.out.2.1, Lib.hid HREL.out.2.2.2.2, Lib.hid HREL.out.1, HM2, HD2⟩
          · have hz0 : t.dp = 0 := by omega
            have hb1 : decide (t.dp < 0) = false := decide_eq_false (by omega)
            have hb2 : (t.dp == 0) = true := by rw [beq_iff_eq]; exact hz0
            have hb3 : decide ((x : Int) < 53) = false := decide_eq_false (by
              have h5 : ¬ t.lead < 5 := fun h => hgo (.inr ⟨hz0, h⟩)
              omega)
            have HFZ : Hid (fl2 gk t e = (t, e)) := Lib.hid (by cases gk with | zero => rfl | succ n => rw [fl2, if_neg hgo])
            have HZ := Lib.hid hz0
            clear hgo hz0 hx hld hd
            go_wp2_with fail
            go_meet
            exact ⟨t, e, rfl, by omega, by omega, HZ.out, Lib.hid (HFL.out.trans HFZ.out), HTO, HM, HDW⟩
      case rest =>
        clear he0 he1 hd1 hd2 HTO0 HM0 HDW0
        obtain ⟨t1, e1, rfl, he0, he1, hd0, HFL2, HTO1, HM1, HDW1⟩ := hcut
        have HFM : Hid (fbM s = (let q : DSt × Int := if e1 - 1 < -1022 then (dsRs (-1022 - (e1 - 1)).toNat t1, -1022) else (t1, e1 - 1)
            if 1024 ≤ q.2 then (0, 1024, true) else
            let m := rndI (dsL 53 q.1)
            let r : Nat × Int := if m = 9007199254740992 then (4503599627370496, q.2 + 1) else (m, q.2)
            if 1024 ≤ r.2 then (0, 1024, true) else (r.1, (if r.1 / 4503599627370496 % 2 = 0 then -1023 else r.2), false))) := Lib.hid (by
          unfold fbM
          rw [HFL1.out]
          dsimp only
          rw [HFL2.out])
        have i2' := fun wr (hm : Mod (· = g) w wr) => (HT.out.mod hg hw hm).info
        have I2 := Lib.hid i2'
        clear i2'
        have j2 := (I2.out _ HM1.out).2.2
        go_upto_if 111 with (fail)
        go_cut [6] from 105 to 125 (fun ve wx => ∃ (t : DSt) (e : Int), ve = .int .i64 e ∧ -1022 ≤ e ∧ e ≤ 18900 ∧ -100000 ≤ t.dp ∧ t.dp ≤ 0 ∧ Hid ((if e1 - 1 < -1022 then (dsRs (-1022 - (e1 - 1)).toNat t1, (-1022 : Int)) else (t1, e1 - 1)) = (t, e)) ∧ Hid t.ok ∧ Hid (Mod (· = g) w wx) ∧ Hid (Dw wx g t neg))
        case first =>
          by_cases hlt : e1 - 1 < -1022
          · obtain ⟨n, hn⟩ : ∃ n : Nat, -1022 - (e1 - 1) = (n : Int) := ⟨(-1022 - (e1 - 1)).toNat, by omega⟩
            have HIF : Hid ((if e1 - 1 < -1022 then (dsRs (-1022 - (e1 - 1)).toNat t1, (-1022 : Int)) else (t1, e1 - 1)) = (dsRs n t1, -1022)) := Lib.hid (by rw [if_pos hlt, hn, Int.toNat_natCast])
            have hsh := shiftR_any (w := wc) (n := n) HDW1.out HTO1.out (by omega) (by omega) (by omega)
            have hok := dsRs_ok n t1 HTO1.out
            have HOK1 := Lib.hid hok
            have hn9 : n ≤ 92000 := by omega
            have hen : e1 - 1 + (n : Int) = -1022 := by omega
            clear hok
            go_wp2_with fail
            refine hsh.mono ?_
            rintro _ w2 ⟨rfl, hm2, hdd2⟩
            have HM2 := Lib.hid (HM1.out.trans hm2 (fun _ _ h => h))
            have HD2 := Lib.hid hdd2
            clear hm2 hdd2 hsh
            go_wp2_with fail
            go_meet
            exact ⟨dsRs n t1, -1022, rfl, by decide, by decide, by have := HOK1.out.2.1; omega, by have := HOK1.out.2.2; omega, HIF, Lib.hid HOK1.out.1, HM2, HD2⟩
          · have HIF : Hid ((if e1 - 1 < -1022 then (dsRs (-1022 - (e1 - 1)).toNat t1, (-1022 : Int)) else (t1, e1 - 1)) = (t1, e1 - 1)) := Lib.hid (if_neg hlt)
            go_wp2_with fail
            go_meet
            exact ⟨t1, e1 - 1, rfl, by omega, by omega, by omega, by omega, HIF, HTO1, HM1, HDW1⟩
        case rest =>
          clear he0 he1 hd0 j2 HTO1 HM1 HDW1
          obtain ⟨t, e, rfl, he0, he1, hd1, hd2, HIF, HTO, HM, HDW⟩ := hcut
          have j0 := (I2.out _ HM.out).1
          have j1 := (I2.out _ HM.out).2.1
          have j2 := (I2.out _ HM.out).2.2
          have HFM2 : Hid (fbT s = (if 1024 ≤ e then (0, 1024, true) else
              let m := rndI (dsL 53 t)
              let r : Nat × Int := if m = 9007199254740992 then (4503599627370496, e + 1) else (m, e)
              if 1024 ≤ r.2 then (0, 1024, true) else (r.1, (if r.1 / 4503599627370496 % 2 = 0 then -1023 else r.2), false))) := Lib.hid (by
            rw [HF.out, HFM.out]
            dsimp only
            rw [HIF.out])
          clear HFM HIF
          by_cases hov : 1024 ≤ e
          · have hov' : (2047 : Int) ≤ e + 1023 := by omega
            have HZ : Hid (fbT s = (0, 1024, true)) := Lib.hid (HFM2.out.trans (if_pos hov))
            have HT1 := Lib.hid (HT.out.mod hg hw (HM.out.drewN 0))
            go_wp2_with fail
            go_quiet (fail)
            go_wp2_with fail
            go_step3
            exact .inr ⟨rfl, FbOver.of rfl (HM.out.drewN _) (HT.out.mod hg hw (HM.out.drewN _)) ⟨t, HDW.out⟩ HZ.out⟩
          · have hov' : ¬ (2047 : Int) ≤ e + 1023 := by omega
            have hsh := fun q => shiftL_any (w := wc.drewN q) (k := 53) (lo := lo) (HT.out.mod hg hw (HM.out.drewN q)) hg (Dc.drewN HDW.out q) HTO.out (by decide) (by decide) (by omega)
            obtain ⟨ok2, δ, hδ, hδ2, _, _⟩ := dsL_ok (k := 53) HTO.out (by decide) (by decide)
            have hch : chD 53 ≤ 19 := (cheat_ok 53 (by decide) (by decide)).top
            have hch2 : chD 53 = 16 := by decide +kernel
            have HOK2 := Lib.hid ok2
            obtain ⟨t2, ht2⟩ : ∃ t2, dsL 53 t = t2 := ⟨_, rfl⟩
            rw [ht2] at hsh hδ HOK2
            have hm64 : rndI t2 < 2 ^ 63 := by
              unfold rndI
              have h1 := shA_lt HOK2.out.lt t2.dp.toNat
              have h2 : 10 ^ t2.dp.toNat ≤ 10 ^ 18 := Nat.pow_le_pow_right (by decide) (by omega)
              have h3 : (sru t2.P t2.nd t2.tr t2.dp).toNat ≤ 1 := by cases sru t2.P t2.nd t2.tr t2.dp <;> decide
              omega
            obtain ⟨m, hm⟩ : ∃ m, rndI t2 = m := ⟨_, rfl⟩
            rw [hm] at hm64
            have HFM3 : Hid (fbT s = if m = 9007199254740992 then (if 1024 ≤ e + 1 then (0, 1024, true) else (4503599627370496, e + 1, false)) else (m, (if m / 4503599627370496 % 2 = 0 then -1023 else e), false)) := Lib.hid (by
              rw [HFM2.out, if_neg hov, ht2, hm]
              by_cases h : m = 9007199254740992
              · simp only [if_pos h]
                by_cases h2 : 1024 ≤ e + 1
                · rw [if_pos h2, if_pos h2]
                · rw [if_neg h2, if_neg h2]; rfl
              · simp only [if_neg h, if_neg hov])
            have HMM := Lib.hid hm
            have hdb : -150000 ≤ t2.dp ∧ t2.dp ≤ 18 := by omega
            clear hm ht2 hδ hδ2 hch hch2 ok2 HFM2 HTO HDW
            go_wp2_with fail
            go_quiet (fail)
            go_wp2_with fail
            refine (hsh _).mono ?_
            rintro _ w2 ⟨rfl, hm2, hdd2⟩
            have hrn := rnd_any hdd2 HOK2.out hdb
            rw [HMM.out] at hrn
            have HM2 := Lib.hid ((HM.out.drewN _).trans hm2 (fun _ _ h => h))
            have HD2 := Lib.hid hdd2
            have k0 := (I2.out _ HM2.out).1
            have k1 := (I2.out _ HM2.out).2.1
            have k2 := (I2.out _ HM2.out).2.2
            clear hm2 hdd2 hsh j0 j1 j2 hdb
            go_wp2_with fail
            refine hrn.mono ?_
            rintro _ wq ⟨rfl, hwq⟩
            rw [hwq]
            clear hwq hrn
            by_cases h53 : m = 9007199254740992
            · subst h53
              by_cases hov2 : 1024 ≤ e + 1
              · have hov2' : (2047 : Int) ≤ e + 1 + 1023 := by omega
                have HZ : Hid (fbT s = (0, 1024, true)) := Lib.hid (by rw [HFM3.out, if_pos rfl, if_pos hov2])
                go_wp2_with fail
                go_quiet (fail)
                go_wp2_with fail
                go_step3
                exact .inr ⟨rfl, FbOver.of rfl (HM2.out.drewN _) (HT.out.mod hg hw (HM2.out.drewN _)) ⟨t2, HD2.out⟩ HZ.out⟩
              · have hov2' : ¬ (2047 : Int) ≤ e + 1 + 1023 := by omega
                have HZ : Hid (fbT s = (4503599627370496, e + 1, false)) := Lib.hid (by rw [HFM3.out, if_pos rfl, if_neg hov2])
                have a1 : bits BinOp.and IntKind.u64 4503599627370496 4503599627370496 = 4503599627370496 := by decide +kernel
                go_wp2_with fail
                go_quiet (fail)
                go_wp2_with fail
                go_step3
                exact .inl ⟨rfl, FbOut.of 4503599627370496 (e + 1) false rfl (HM2.out.drewN _) (HT.out.mod hg hw (HM2.out.drewN _)) ⟨t2, HD2.out⟩ HZ.out (by decide) (by omega) (by omega)⟩
            · have h53b : ((m : Int) == 9007199254740992) = false := by rw [beq_eq_false_iff_ne]; omega
              have hab := and_bit m (by omega)
              have HZ : Hid (fbT s = (m, (if m / 4503599627370496 % 2 = 0 then -1023 else e), false)) := Lib.hid (by rw [HFM3.out, if_neg h53])
              by_cases hbit : m / 4503599627370496 % 2 = 0
              · rw [decide_eq_true hbit] at hab
                have HZ2 : Hid (fbT s = (m, -1023, false)) := Lib.hid (by rw [HZ.out, if_pos hbit])
                clear hbit h53
                go_wp2_with fail
                go_step3
                exact .inl ⟨rfl, FbOut.of m (-1023) false rfl HM2.out (HT.out.mod hg hw HM2.out) ⟨t2, HD2.out⟩ HZ2.out (by omega) (by decide) (by decide)⟩
              · rw [decide_eq_false hbit] at hab
                have HZ2 : Hid (fbT s = (m, e, false)) := Lib.hid (by rw [HZ.out, if_neg hbit])
                clear hbit h53
                go_wp2_with fail
                go_step3
                exact .inl ⟨rfl, FbOut.of m e false rfl HM2.out (HT.out.mod hg hw HM2.out) ⟨t2, HD2.out⟩ HZ2.out (by omega) (by omega) (by omega)⟩
  · rintro a w1 ⟨F, rfl, HM, HT1, HDW, HF⟩
    unfold litV
    obtain ⟨t, C, hrow, hc⟩ := HDW.out
    have cn := hrow.cell hc.cneg
    have i0 := HT1.out.info.1
    have i1 := HT1.out.info.2.1
    have i2 := HT1.out.info.2.2
    have a1 : bits BinOp.and IntKind.u64 0 4503599627370495 = 0 := and_low 0 (by decide)
    have a2 : bits BinOp.and IntKind.i64 2047 2047 = 2047 := and_exp 2047 (by decide)
    have a3 : bits BinOp.or IntKind.u64 0 9218868437227405312 = 9218868437227405312 := or_parts 0 2047 (by decide) (by decide)
    have a4 : bits BinOp.or IntKind.u64 9218868437227405312 9223372036854775808 = 18442240474082181120 := or_sign 9218868437227405312 (by decide)
    have HX : Hid (fbW (fbT s) = 9218868437227405312 ∧ (fbT s).2.2 = true) := Lib.hid (by rw [HF.out]; exact ⟨rfl, rfl⟩)
    clear hrow hc
    cases neg with
    | true =>
      go_wp2_with fail
      go_quiet (fail)
      go_wp2_with fail
      go_step3
      go_wp2_with fail
      go_quiet (fail)
      go_wp2_with fail
      go_quiet (fail)
      go_wp2_with fail
      rw [Exit.noGoto_ret]
      go_ret2
      exact FbPost.of ((HM.out.drewN _).drewN _) HX.out.1 HX.out.2 rfl
    | false =>
      go_wp2_with fail
      go_quiet (fail)
      go_wp2_with fail
      go_step3
      go_wp2_with fail
      go_quiet (fail)
      go_wp2_with fail
      rw [Exit.noGoto_ret]
      go_ret2
      exact FbPost.of (HM.out.drewN _) HX.out.1 HX.out.2 rfl
  · rintro a w1 ⟨F, m, ex, o, rfl, HM, HT1, HDW, HF, hm, he1, he2⟩
    unfold litO
    obtain ⟨t, C, hrow, hc⟩ := HDW.out
    have cn := hrow.cell hc.cneg
    have i0 := HT1.out.info.1
    have i1 := HT1.out.info.2.1
    have i2 := HT1.out.info.2.2
    obtain ⟨y, hy⟩ : ∃ y : Nat, ex + 1023 = (y : Int) := ⟨(ex + 1023).toNat, by omega⟩
    obtain ⟨lw, hlw⟩ : ∃ lw, m % 4503599627370496 = lw := ⟨_, rfl⟩
    have hlw2 : lw < 4503599627370496 := by omega
    have hy2 : y ≤ 2047 := by omega
    have a1 : bits BinOp.and IntKind.u64 (m : Int) 4503599627370495 = (lw : Int) := by rw [and_low m hm, hlw]
    have a2 : bits BinOp.and IntKind.i64 (ex + 1023) 2047 = (y : Int) := by rw [hy, and_exp y hy2]
    have a3 : bits BinOp.or IntKind.u64 (lw : Int) ((y : Int) * 4503599627370496) = ((lw + y * 4503599627370496 : Nat) : Int) := or_parts lw y hlw2 hy2
    obtain ⟨x, hx⟩ : ∃ x, lw + y * 4503599627370496 = x := ⟨_, rfl⟩
    rw [hx] at a3
    have HX : Hid (fbW (fbT s) = x ∧ (fbT s).2.2 = o) := Lib.hid (by
      rw [HF.out]
      refine ⟨?_, rfl⟩
      show m % 4503599627370496 + (ex + 1023).toNat * 4503599627370496 = x
      rw [hlw, hy, Int.toNat_natCast, hx])
    have hx63 : x < 9223372036854775808 := by omega
    have a4 := or_sign x hx63
    clear hrow hc hx hlw hy
    cases neg with
    | true =>
      go_wp2_with fail
      go_quiet (fail)
      go_wp2_with fail
      go_quiet (fail)
      go_wp2_with fail
      rw [Exit.noGoto_ret]
      go_ret2
      exact FbPost.of ((HM.out.drewN _).drewN _) HX.out.1 HX.out.2 rfl
    | false =>
      go_wp2_with fail
      go_quiet (fail)
      go_wp2_with fail
      rw [Exit.noGoto_ret]
      go_ret2
      exact FbPost.of (HM.out.drewN _) HX.out.1 HX.out.2 rfl
end Go.Proofs.YtadpeebcombjnaaGreatDoor
