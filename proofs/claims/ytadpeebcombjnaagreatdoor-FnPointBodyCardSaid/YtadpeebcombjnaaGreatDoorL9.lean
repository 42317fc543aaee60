/- Scanner.scanNumber: a number of the text. -/
import Derived.Test.YtadpeebcombjnaaGreatDoorL7L8
namespace Go.Proofs.YtadpeebcombjnaaGreatDoor
open Go Go.Proofs Go.RowKit Go.Lib
set_option maxRecDepth 100000
set_option maxHeartbeats 40000000 in
theorem scanNumber_zd {base B R : Nat} {s : ByteArray} {w : World} {k n1 n3 n6 : Nat} {st : Option Nat} {te ch : Int} {pk : ByteArray} {ef : Value} (h : At base B R s w k st te ch pk ef) (hk1 : k < n1)
    (hz : (ru s k = 48 ∧ n1 = k + 1 ∧ Run s (k + 1) n1 ∧ bits BinOp.or IntKind.i32 32 (ru s (k + 1)) ≠ 120 ∧ bits BinOp.or IntKind.i32 32 (ru s (k + 1)) ≠ 111 ∧ bits BinOp.or IntKind.i32 32 (ru s (k + 1)) ≠ 98))
    (hdot : (ru s n1 = 46 ∧ Run s (n1 + 1) n3)) (hexp : ExpAt s n3 n6) :
    Calls Tryz.prog 71 #[.pointer (some ⟨B, 0, none⟩), .int .i32 (ru s k), .bool false] w fun e w' => (∃ t : Int, t ≠ -1 ∧ e = .returned (.tuple #[.int .i32 t, .int .i32 (ru s n6)])) ∧ Fr base B R w w' ∧ At base B R s w' n6 st te ch pk ef := by
  obtain ⟨hB0, hR0, hBR, hBw, hRw⟩ := h.bw
  have hbw := h.env.heap
  obtain ⟨V, hVV⟩ : ∃ V, w.heap.size = V := ⟨_, rfl⟩
  have hV : base ≤ V := by omega
  have hVB : V ≠ B := by omega
  have hVR : V ≠ R := by omega
  have hA0 := h.alloc (.cells #[.int .i32 0] 21)
  have hX0 : Row (w.alloc (.cells #[.int .i32 0] 21)) V #[.int .i32 0] 21 := hVV ▸ Row.new w #[.int .i32 0] 21
  have H0 := Lib.hid ((Fr.refl base B R w).alloc hbw (.cells #[.int .i32 0] 21))
  have HA := Lib.hid hA0
  have HX := Lib.hid hX0
  have HF := Lib.hid (Fx.refl base B R V (w.alloc (.cells #[.int .i32 0] 21)))
  have HV := Lib.hid (Nat.le_of_eq hVV)
  have hor := orU
  have hdt : d01 true = 1 := rfl
  have h01 := orA
  have h11 := andA
  have h12 := andB
  have h28 := andM
  have hd1 := d01_lt hk1
  have hmode := hA0.mode
  have hfz := hA0.chc.2
  have HW := Lib.hid hbw
  clear hA0 hX0 h hbw hBw hRw
  have hks : k < s.size := by exact lt_of_ru (by have := hz.1; omega)
  have HS1 : Hid (∀ m, ru s m = 46 → m < s.size) := Lib.hid fun m h => lt_of_ru (by omega)
  have HS2 : Hid (∀ m, bits BinOp.or IntKind.i32 32 (ru s m) = 101 → m < s.size) := Lib.hid fun m h => lt_of_ru (fun e => by rw [e] at h; exact absurd h (by decide))
  have HS3 : Hid (∀ m, (ru s m = 43 ∨ ru s m = 45) → m < s.size) := Lib.hid fun m h => lt_of_ru (by omega)
  go_enter Tryz.func71, Tryz.ntmps71
  go_upto_region 9 with (fail)
  clear hVV
  generalize w.alloc (.cells #[.int .i32 0] 21) = w0 at H0 HA HX HF hmode hfz ⊢
  have hexp' := hexp.view
  have h48 := Lib.hid hz.1
  have t48 : (ru s k == 48) = true := beq_iff_eq.2 hz.1
  obtain ⟨_, rfl, hr1, hlx, hlo, hlb⟩ := hz
  clear ‹ru s k = 48›
  have h46 := Lib.hid hdot.1
  have t46 : (ru s (k + 1) == 46) = true := beq_iff_eq.2 hdot.1
  have hr2 := hdot.2
  clear hdot
  clear hexp
  rcases hexp' with ⟨hle, tle, n112, q, ⟨hsg, t1, rfl⟩ | ⟨hsg, t1, t2, rfl⟩ | ⟨hs1, hs2, rfl⟩, hr3, hq⟩ | ⟨hle, hlp, rfl⟩
  case inr =>
    go_wp2_with (first | (go_at_call 66; refine (next_at HA.out (by first | exact hks | exact HS1.out _ h46.out | exact HS2.out _ hle.out | exact HS3.out _ hsg.out)).mono ?_; rintro e w2 ⟨rfl, hF2, hA2⟩; have HX2 := Lib.hid (hF2.keep V _ HX.out hVB hVR (fun c f e => by injection e with _ e2; exact absurd e2 (by decide))); have HF2 := Lib.hid (HF.out.trans (hF2.fx V)); have HA2 := Lib.hid hA2; have hmode := hA2.mode; have hfz := hA2.chc.2; clear hF2 hA2 HX HF HA; have HX := HX2; have HF := HF2; have HA := HA2; clear HX2 HF2 HA2) | (go_at_call 85; refine (lower_any _ _).mono ?_; rintro _ _ ⟨rfl, rfl⟩) | (go_at_call 86; refine (digits_run HA.out (by first | exact hr1 | exact hr2 | exact hr3) (by decide) hV hVB hVR HX.out).mono ?_; rintro e w2 ⟨rfl, hF2, hA2, x2, hx2, hX2⟩; (first | (obtain rfl := hx2 (.inl rfl)) | (obtain rfl := hx2 (.inr rfl)) | skip); have HX2 := Lib.hid hX2; have hvc : w2.cell? ⟨V, 0, none⟩ = _ := hX2.cell rfl; have HF2 := Lib.hid (HF.out.trans hF2); have HA2 := Lib.hid hA2; have hmode := hA2.mode; have hfz := hA2.chc.2; clear hF2 hA2 hX2 HX HF HA; have HX := HX2; have HF := HF2; have HA := HA2; clear HX2 HF2 HA2))
    go_ret2
    exact ⟨⟨_, by decide, rfl⟩, Fr.of_fx H0.out HF.out HV.out, HA.out⟩
  all_goals
    have hd3 := d01_lt hq
    go_upto_region 46 with (first | (go_at_call 66; refine (next_at HA.out (by first | exact hks | exact HS1.out _ h46.out | exact HS2.out _ hle.out | exact HS3.out _ hsg.out)).mono ?_; rintro e w2 ⟨rfl, hF2, hA2⟩; have HX2 := Lib.hid (hF2.keep V _ HX.out hVB hVR (fun c f e => by injection e with _ e2; exact absurd e2 (by decide))); have HF2 := Lib.hid (HF.out.trans (hF2.fx V)); have HA2 := Lib.hid hA2; have hmode := hA2.mode; have hfz := hA2.chc.2; clear hF2 hA2 HX HF HA; have HX := HX2; have HF := HF2; have HA := HA2; clear HX2 HF2 HA2) | (go_at_call 85; refine (lower_any _ _).mono ?_; rintro _ _ ⟨rfl, rfl⟩) | (go_at_call 86; refine (digits_run HA.out (by first | exact hr1 | exact hr2 | exact hr3) (by decide) hV hVB hVR HX.out).mono ?_; rintro e w2 ⟨rfl, hF2, hA2, x2, hx2, hX2⟩; (first | (obtain rfl := hx2 (.inl rfl)) | (obtain rfl := hx2 (.inr rfl)) | skip); have HX2 := Lib.hid hX2; have hvc : w2.cell? ⟨V, 0, none⟩ = _ := hX2.cell rfl; have HF2 := Lib.hid (HF.out.trans hF2); have HA2 := Lib.hid hA2; have hmode := hA2.mode; have hfz := hA2.chc.2; clear hF2 hA2 hX2 HX HF HA; have HX := HX2; have HF := HF2; have HA := HA2; clear HX2 HF2 HA2))
    go_wp2_with ((go_at_call 86; refine (digits_nil HA.out hr3.le hr3.dig hr3.fin hr3.us).mono ?_; rintro e w2 ⟨rfl, hF2, hA2⟩; have HX2 := Lib.hid (hF2.keep V _ HX.out hVB hVR (fun c f e => by injection e with _ e2; exact absurd e2 (by decide))); have HF2 := Lib.hid (HF.out.trans (hF2.fx V)); have HA2 := Lib.hid hA2; have hmode := hA2.mode; have hfz := hA2.chc.2; clear hF2 hA2 HX HF HA; have HX := HX2; have HF := HF2; have HA := HA2; clear HX2 HF2 HA2))
    go_ret2
    exact ⟨⟨_, by decide, rfl⟩, Fr.of_fx H0.out HF.out HV.out, HA.out⟩
set_option maxHeartbeats 40000000 in
theorem scanNumber_zn {base B R : Nat} {s : ByteArray} {w : World} {k n1 n3 n6 : Nat} {st : Option Nat} {te ch : Int} {pk : ByteArray} {ef : Value} (h : At base B R s w k st te ch pk ef) (hk1 : k < n1)
    (hz : (ru s k = 48 ∧ n1 = k + 1 ∧ Run s (k + 1) n1 ∧ bits BinOp.or IntKind.i32 32 (ru s (k + 1)) ≠ 120 ∧ bits BinOp.or IntKind.i32 32 (ru s (k + 1)) ≠ 111 ∧ bits BinOp.or IntKind.i32 32 (ru s (k + 1)) ≠ 98))
    (hdot : (ru s n1 ≠ 46 ∧ n3 = n1)) (hexp : ExpAt s n3 n6) :
    Calls Tryz.prog 71 #[.pointer (some ⟨B, 0, none⟩), .int .i32 (ru s k), .bool false] w fun e w' => (∃ t : Int, t ≠ -1 ∧ e = .returned (.tuple #[.int .i32 t, .int .i32 (ru s n6)])) ∧ Fr base B R w w' ∧ At base B R s w' n6 st te ch pk ef := by
  obtain ⟨hB0, hR0, hBR, hBw, hRw⟩ := h.bw
  have hbw := h.env.heap
  obtain ⟨V, hVV⟩ : ∃ V, w.heap.size = V := ⟨_, rfl⟩
  have hV : base ≤ V := by omega
  have hVB : V ≠ B := by omega
  have hVR : V ≠ R := by omega
  have hA0 := h.alloc (.cells #[.int .i32 0] 21)
  have hX0 : Row (w.alloc (.cells #[.int .i32 0] 21)) V #[.int .i32 0] 21 := hVV ▸ Row.new w #[.int .i32 0] 21
  have H0 := Lib.hid ((Fr.refl base B R w).alloc hbw (.cells #[.int .i32 0] 21))
  have HA := Lib.hid hA0
  have HX := Lib.hid hX0
  have HF := Lib.hid (Fx.refl base B R V (w.alloc (.cells #[.int .i32 0] 21)))
  have HV := Lib.hid (Nat.le_of_eq hVV)
  have hor := orU
  have hdt : d01 true = 1 := rfl
  have h01 := orA
  have h11 := andA
  have h12 := andB
  have h28 := andM
  have hd1 := d01_lt hk1
  have hmode := hA0.mode
  have hfz := hA0.chc.2
  have HW := Lib.hid hbw
  clear hA0 hX0 h hbw hBw hRw
  have hks : k < s.size := by exact lt_of_ru (by have := hz.1; omega)
  have HS1 : Hid (∀ m, ru s m = 46 → m < s.size) := Lib.hid fun m h => lt_of_ru (by omega)
  have HS2 : Hid (∀ m, bits BinOp.or IntKind.i32 32 (ru s m) = 101 → m < s.size) := Lib.hid fun m h => lt_of_ru (fun e => by rw [e] at h; exact absurd h (by decide))
  have HS3 : Hid (∀ m, (ru s m = 43 ∨ ru s m = 45) → m < s.size) := Lib.hid fun m h => lt_of_ru (by omega)
  go_enter Tryz.func71, Tryz.ntmps71
  go_upto_region 9 with (fail)
  clear hVV
  generalize w.alloc (.cells #[.int .i32 0] 21) = w0 at H0 HA HX HF hmode hfz ⊢
  have hexp' := hexp.view
  have h48 := Lib.hid hz.1
  have t48 : (ru s k == 48) = true := beq_iff_eq.2 hz.1
  obtain ⟨_, rfl, hr1, hlx, hlo, hlb⟩ := hz
  clear ‹ru s k = 48›
  obtain ⟨h46, rfl⟩ := hdot
  clear hexp
  rcases hexp' with ⟨hle, tle, n112, q, ⟨hsg, t1, rfl⟩ | ⟨hsg, t1, t2, rfl⟩ | ⟨hs1, hs2, rfl⟩, hr3, hq⟩ | ⟨hle, hlp, rfl⟩
  case inr =>
    go_wp2_with (first | (go_at_call 66; refine (next_at HA.out (by first | exact hks | exact HS1.out _ h46.out | exact HS2.out _ hle.out | exact HS3.out _ hsg.out)).mono ?_; rintro e w2 ⟨rfl, hF2, hA2⟩; have HX2 := Lib.hid (hF2.keep V _ HX.out hVB hVR (fun c f e => by injection e with _ e2; exact absurd e2 (by decide))); have HF2 := Lib.hid (HF.out.trans (hF2.fx V)); have HA2 := Lib.hid hA2; have hmode := hA2.mode; have hfz := hA2.chc.2; clear hF2 hA2 HX HF HA; have HX := HX2; have HF := HF2; have HA := HA2; clear HX2 HF2 HA2) | (go_at_call 85; refine (lower_any _ _).mono ?_; rintro _ _ ⟨rfl, rfl⟩) | (go_at_call 86; refine (digits_run HA.out (by first | exact hr1 | exact hr2 | exact hr3) (by decide) hV hVB hVR HX.out).mono ?_; rintro e w2 ⟨rfl, hF2, hA2, x2, hx2, hX2⟩; (first | (obtain rfl := hx2 (.inl rfl)) | (obtain rfl := hx2 (.inr rfl)) | skip); have HX2 := Lib.hid hX2; have hvc : w2.cell? ⟨V, 0, none⟩ = _ := hX2.cell rfl; have HF2 := Lib.hid (HF.out.trans hF2); have HA2 := Lib.hid hA2; have hmode := hA2.mode; have hfz := hA2.chc.2; clear hF2 hA2 hX2 HX HF HA; have HX := HX2; have HF := HF2; have HA := HA2; clear HX2 HF2 HA2))
    go_ret2
    exact ⟨⟨_, by decide, rfl⟩, Fr.of_fx H0.out HF.out HV.out, HA.out⟩
  all_goals
    have hd3 := d01_lt hq
    go_upto_region 46 with (first | (go_at_call 66; refine (next_at HA.out (by first | exact hks | exact HS1.out _ h46.out | exact HS2.out _ hle.out | exact HS3.out _ hsg.out)).mono ?_; rintro e w2 ⟨rfl, hF2, hA2⟩; have HX2 := Lib.hid (hF2.keep V _ HX.out hVB hVR (fun c f e => by injection e with _ e2; exact absurd e2 (by decide))); have HF2 := Lib.hid (HF.out.trans (hF2.fx V)); have HA2 := Lib.hid hA2; have hmode := hA2.mode; have hfz := hA2.chc.2; clear hF2 hA2 HX HF HA; have HX := HX2; have HF := HF2; have HA := HA2; clear HX2 HF2 HA2) | (go_at_call 85; refine (lower_any _ _).mono ?_; rintro _ _ ⟨rfl, rfl⟩) | (go_at_call 86; refine (digits_run HA.out (by first | exact hr1 | exact hr2 | exact hr3) (by decide) hV hVB hVR HX.out).mono ?_; rintro e w2 ⟨rfl, hF2, hA2, x2, hx2, hX2⟩; (first | (obtain rfl := hx2 (.inl rfl)) | (obtain rfl := hx2 (.inr rfl)) | skip); have HX2 := Lib.hid hX2; have hvc : w2.cell? ⟨V, 0, none⟩ = _ := hX2.cell rfl; have HF2 := Lib.hid (HF.out.trans hF2); have HA2 := Lib.hid hA2; have hmode := hA2.mode; have hfz := hA2.chc.2; clear hF2 hA2 hX2 HX HF HA; have HX := HX2; have HF := HF2; have HA := HA2; clear HX2 HF2 HA2))
    go_wp2_with ((go_at_call 86; refine (digits_nil HA.out hr3.le hr3.dig hr3.fin hr3.us).mono ?_; rintro e w2 ⟨rfl, hF2, hA2⟩; have HX2 := Lib.hid (hF2.keep V _ HX.out hVB hVR (fun c f e => by injection e with _ e2; exact absurd e2 (by decide))); have HF2 := Lib.hid (HF.out.trans (hF2.fx V)); have HA2 := Lib.hid hA2; have hmode := hA2.mode; have hfz := hA2.chc.2; clear hF2 hA2 HX HF HA; have HX := HX2; have HF := HF2; have HA := HA2; clear HX2 HF2 HA2))
    go_ret2
    exact ⟨⟨_, by decide, rfl⟩, Fr.of_fx H0.out HF.out HV.out, HA.out⟩
set_option maxHeartbeats 40000000 in
theorem scanNumber_nd {base B R : Nat} {s : ByteArray} {w : World} {k n1 n3 n6 : Nat} {st : Option Nat} {te ch : Int} {pk : ByteArray} {ef : Value} (h : At base B R s w k st te ch pk ef) (hk1 : k < n1)
    (hz : (ru s k ≠ 48 ∧ Run s k n1))
    (hdot : (ru s n1 = 46 ∧ Run s (n1 + 1) n3)) (hexp : ExpAt s n3 n6) :
    Calls Tryz.prog 71 #[.pointer (some ⟨B, 0, none⟩), .int .i32 (ru s k), .bool false] w fun e w' => (∃ t : Int, t ≠ -1 ∧ e = .returned (.tuple #[.int .i32 t, .int .i32 (ru s n6)])) ∧ Fr base B R w w' ∧ At base B R s w' n6 st te ch pk ef := by
  obtain ⟨hB0, hR0, hBR, hBw, hRw⟩ := h.bw
  have hbw := h.env.heap
  obtain ⟨V, hVV⟩ : ∃ V, w.heap.size = V := ⟨_, rfl⟩
  have hV : base ≤ V := by omega
  have hVB : V ≠ B := by omega
  have hVR : V ≠ R := by omega
  have hA0 := h.alloc (.cells #[.int .i32 0] 21)
  have hX0 : Row (w.alloc (.cells #[.int .i32 0] 21)) V #[.int .i32 0] 21 := hVV ▸ Row.new w #[.int .i32 0] 21
  have H0 := Lib.hid ((Fr.refl base B R w).alloc hbw (.cells #[.int .i32 0] 21))
  have HA := Lib.hid hA0
  have HX := Lib.hid hX0
  have HF := Lib.hid (Fx.refl base B R V (w.alloc (.cells #[.int .i32 0] 21)))
  have HV := Lib.hid (Nat.le_of_eq hVV)
  have hor := orU
  have hdt : d01 true = 1 := rfl
  have h01 := orA
  have h11 := andA
  have h12 := andB
  have h28 := andM
  have hd1 := d01_lt hk1
  have hmode := hA0.mode
  have hfz := hA0.chc.2
  have HW := Lib.hid hbw
  clear hA0 hX0 h hbw hBw hRw
  have hks : k < s.size := by exact lt_of_ru (by have := digI_iff.1 (hz.2.dig k (Nat.le_refl _) hk1); omega)
  have HS1 : Hid (∀ m, ru s m = 46 → m < s.size) := Lib.hid fun m h => lt_of_ru (by omega)
  have HS2 : Hid (∀ m, bits BinOp.or IntKind.i32 32 (ru s m) = 101 → m < s.size) := Lib.hid fun m h => lt_of_ru (fun e => by rw [e] at h; exact absurd h (by decide))
  have HS3 : Hid (∀ m, (ru s m = 43 ∨ ru s m = 45) → m < s.size) := Lib.hid fun m h => lt_of_ru (by omega)
  go_enter Tryz.func71, Tryz.ntmps71
  go_upto_region 9 with (fail)
  clear hVV
  generalize w.alloc (.cells #[.int .i32 0] 21) = w0 at H0 HA HX HF hmode hfz ⊢
  have hexp' := hexp.view
  obtain ⟨h48, hr1⟩ := hz
  have h46 := Lib.hid hdot.1
  have t46 : (ru s n1 == 46) = true := beq_iff_eq.2 hdot.1
  have hr2 := hdot.2
  clear hdot
  clear hexp
  rcases hexp' with ⟨hle, tle, n112, q, ⟨hsg, t1, rfl⟩ | ⟨hsg, t1, t2, rfl⟩ | ⟨hs1, hs2, rfl⟩, hr3, hq⟩ | ⟨hle, hlp, rfl⟩
  case inr =>
    go_wp2_with (first | (go_at_call 66; refine (next_at HA.out (by first | exact hks | exact HS1.out _ h46.out | exact HS2.out _ hle.out | exact HS3.out _ hsg.out)).mono ?_; rintro e w2 ⟨rfl, hF2, hA2⟩; have HX2 := Lib.hid (hF2.keep V _ HX.out hVB hVR (fun c f e => by injection e with _ e2; exact absurd e2 (by decide))); have HF2 := Lib.hid (HF.out.trans (hF2.fx V)); have HA2 := Lib.hid hA2; have hmode := hA2.mode; have hfz := hA2.chc.2; clear hF2 hA2 HX HF HA; have HX := HX2; have HF := HF2; have HA := HA2; clear HX2 HF2 HA2) | (go_at_call 85; refine (lower_any _ _).mono ?_; rintro _ _ ⟨rfl, rfl⟩) | (go_at_call 86; refine (digits_run HA.out (by first | exact hr1 | exact hr2 | exact hr3) (by decide) hV hVB hVR HX.out).mono ?_; rintro e w2 ⟨rfl, hF2, hA2, x2, hx2, hX2⟩; (first | (obtain rfl := hx2 (.inl rfl)) | (obtain rfl := hx2 (.inr rfl)) | skip); have HX2 := Lib.hid hX2; have hvc : w2.cell? ⟨V, 0, none⟩ = _ := hX2.cell rfl; have HF2 := Lib.hid (HF.out.trans hF2); have HA2 := Lib.hid hA2; have hmode := hA2.mode; have hfz := hA2.chc.2; clear hF2 hA2 hX2 HX HF HA; have HX := HX2; have HF := HF2; have HA := HA2; clear HX2 HF2 HA2))
    go_ret2
    exact ⟨⟨_, by decide, rfl⟩, Fr.of_fx H0.out HF.out HV.out, HA.out⟩
  all_goals
    have hd3 := d01_lt hq
    go_upto_region 46 with (first | (go_at_call 66; refine (next_at HA.out (by first | exact hks | exact HS1.out _ h46.out | exact HS2.out _ hle.out | exact HS3.out _ hsg.out)).mono ?_; rintro e w2 ⟨rfl, hF2, hA2⟩; have HX2 := Lib.hid (hF2.keep V _ HX.out hVB hVR (fun c f e => by injection e with _ e2; exact absurd e2 (by decide))); have HF2 := Lib.hid (HF.out.trans (hF2.fx V)); have HA2 := Lib.hid hA2; have hmode := hA2.mode; have hfz := hA2.chc.2; clear hF2 hA2 HX HF HA; have HX := HX2; have HF := HF2; have HA := HA2; clear HX2 HF2 HA2) | (go_at_call 85; refine (lower_any _ _).mono ?_; rintro _ _ ⟨rfl, rfl⟩) | (go_at_call 86; refine (digits_run HA.out (by first | exact hr1 | exact hr2 | exact hr3) (by decide) hV hVB hVR HX.out).mono ?_; rintro e w2 ⟨rfl, hF2, hA2, x2, hx2, hX2⟩; (first | (obtain rfl := hx2 (.inl rfl)) | (obtain rfl := hx2 (.inr rfl)) | skip); have HX2 := Lib.hid hX2; have hvc : w2.cell? ⟨V, 0, none⟩ = _ := hX2.cell rfl; have HF2 := Lib.hid (HF.out.trans hF2); have HA2 := Lib.hid hA2; have hmode := hA2.mode; have hfz := hA2.chc.2; clear hF2 hA2 hX2 HX HF HA; have HX := HX2; have HF := HF2; have HA := HA2; clear HX2 HF2 HA2))
    go_wp2_with ((go_at_call 86; refine (digits_nil HA.out hr3.le hr3.dig hr3.fin hr3.us).mono ?_; rintro e w2 ⟨rfl, hF2, hA2⟩; have HX2 := Lib.hid (hF2.keep V _ HX.out hVB hVR (fun c f e => by injection e with _ e2; exact absurd e2 (by decide))); have HF2 := Lib.hid (HF.out.trans (hF2.fx V)); have HA2 := Lib.hid hA2; have hmode := hA2.mode; have hfz := hA2.chc.2; clear hF2 hA2 HX HF HA; have HX := HX2; have HF := HF2; have HA := HA2; clear HX2 HF2 HA2))
    go_ret2
    exact ⟨⟨_, by decide, rfl⟩, Fr.of_fx H0.out HF.out HV.out, HA.out⟩
set_option maxHeartbeats 40000000 in
theorem scanNumber_nn {base B R : Nat} {s : ByteArray} {w : World} {k n1 n3 n6 : Nat} {st : Option Nat} {te ch : Int} {pk : ByteArray} {ef : Value} (h : At base B R s w k st te ch pk ef) (hk1 : k < n1)
    (hz : (ru s k ≠ 48 ∧ Run s k n1))
    (hdot : (ru s n1 ≠ 46 ∧ n3 = n1)) (hexp : ExpAt s n3 n6) :
    Calls Tryz.prog 71 #[.pointer (some ⟨B, 0, none⟩), .int .i32 (ru s k), .bool false] w fun e w' => (∃ t : Int, t ≠ -1 ∧ e = .returned (.tuple #[.int .i32 t, .int .i32 (ru s n6)])) ∧ Fr base B R w w' ∧ At base B R s w' n6 st te ch pk ef := by
  obtain ⟨hB0, hR0, hBR, hBw, hRw⟩ := h.bw
  have hbw := h.env.heap
  obtain ⟨V, hVV⟩ : ∃ V, w.heap.size = V := ⟨_, rfl⟩
  have hV : base ≤ V := by omega
  have hVB : V ≠ B := by omega
  have hVR : V ≠ R := by omega
  have hA0 := h.alloc (.cells #[.int .i32 0] 21)
  have hX0 : Row (w.alloc (.cells #[.int .i32 0] 21)) V #[.int .i32 0] 21 := hVV ▸ Row.new w #[.int .i32 0] 21
  have H0 := Lib.hid ((Fr.refl base B R w).alloc hbw (.cells #[.int .i32 0] 21))
  have HA := Lib.hid hA0
  have HX := Lib.hid hX0
  have HF := Lib.hid (Fx.refl base B R V (w.alloc (.cells #[.int .i32 0] 21)))
  have HV := Lib.hid (Nat.le_of_eq hVV)
  have hor := orU
  have hdt : d01 true = 1 := rfl
  have h01 := orA
  have h11 := andA
  have h12 := andB
  have h28 := andM
  have hd1 := d01_lt hk1
  have hmode := hA0.mode
  have hfz := hA0.chc.2
  have HW := Lib.hid hbw
  clear hA0 hX0 h hbw hBw hRw
  have hks : k < s.size := by exact lt_of_ru (by have := digI_iff.1 (hz.2.dig k (Nat.le_refl _) hk1); omega)
  have HS1 : Hid (∀ m, ru s m = 46 → m < s.size) := Lib.hid fun m h => lt_of_ru (by omega)
  have HS2 : Hid (∀ m, bits BinOp.or IntKind.i32 32 (ru s m) = 101 → m < s.size) := Lib.hid fun m h => lt_of_ru (fun e => by rw [e] at h; exact absurd h (by decide))
  have HS3 : Hid (∀ m, (ru s m = 43 ∨ ru s m = 45) → m < s.size) := Lib.hid fun m h => lt_of_ru (by omega)
  go_enter Tryz.func71, Tryz.ntmps71
  go_upto_region 9 with (fail)
  clear hVV
  generalize w.alloc (.cells #[.int .i32 0] 21) = w0 at H0 HA HX HF hmode hfz ⊢
  have hexp' := hexp.view
  obtain ⟨h48, hr1⟩ := hz
  obtain ⟨h46, rfl⟩ := hdot
  clear hexp
  rcases hexp' with ⟨hle, tle, n112, q, ⟨hsg, t1, rfl⟩ | ⟨hsg, t1, t2, rfl⟩ | ⟨hs1, hs2, rfl⟩, hr3, hq⟩ | ⟨hle, hlp, rfl⟩
  case inr =>
    go_wp2_with (first | (go_at_call 66; refine (next_at HA.out (by first | exact hks | exact HS1.out _ h46.out | exact HS2.out _ hle.out | exact HS3.out _ hsg.out)).mono ?_; rintro e w2 ⟨rfl, hF2, hA2⟩; have HX2 := Lib.hid (hF2.keep V _ HX.out hVB hVR (fun c f e => by injection e with _ e2; exact absurd e2 (by decide))); have HF2 := Lib.hid (HF.out.trans (hF2.fx V)); have HA2 := Lib.hid hA2; have hmode := hA2.mode; have hfz := hA2.chc.2; clear hF2 hA2 HX HF HA; have HX := HX2; have HF := HF2; have HA := HA2; clear HX2 HF2 HA2) | (go_at_call 85; refine (lower_any _ _).mono ?_; rintro _ _ ⟨rfl, rfl⟩) | (go_at_call 86; refine (digits_run HA.out (by first | exact hr1 | exact hr2 | exact hr3) (by decide) hV hVB hVR HX.out).mono ?_; rintro e w2 ⟨rfl, hF2, hA2, x2, hx2, hX2⟩; (first | (obtain rfl := hx2 (.inl rfl)) | (obtain rfl := hx2 (.inr rfl)) | skip); have HX2 := Lib.hid hX2; have hvc : w2.cell? ⟨V, 0, none⟩ = _ := hX2.cell rfl; have HF2 := Lib.hid (HF.out.trans hF2); have HA2 := Lib.hid hA2; have hmode := hA2.mode; have hfz := hA2.chc.2; clear hF2 hA2 hX2 HX HF HA; have HX := HX2; have HF := HF2; have HA := HA2; clear HX2 HF2 HA2))
    go_ret2
    exact ⟨⟨_, by decide, rfl⟩, Fr.of_fx H0.out HF.out HV.out, HA.out⟩
  all_goals
    have hd3 := d01_lt hq
    go_upto_region 46 with (first | (go_at_call 66; refine (next_at HA.out (by first | exact hks | exact HS1.out _ h46.out | exact HS2.out _ hle.out | exact HS3.out _ hsg.out)).mono ?_; rintro e w2 ⟨rfl, hF2, hA2⟩; have HX2 := Lib.hid (hF2.keep V _ HX.out hVB hVR (fun c f e => by injection e with _ e2; exact absurd e2 (by decide))); have HF2 := Lib.hid (HF.out.trans (hF2.fx V)); have HA2 := Lib.hid hA2; have hmode := hA2.mode; have hfz := hA2.chc.2; clear hF2 hA2 HX HF HA; have HX := HX2; have HF := HF2; have HA := HA2; clear HX2 HF2 HA2) | (go_at_call 85; refine (lower_any _ _).mono ?_; rintro _ _ ⟨rfl, rfl⟩) | (go_at_call 86; refine (digits_run HA.out (by first | exact hr1 | exact hr2 | exact hr3) (by decide) hV hVB hVR HX.out).mono ?_; rintro e w2 ⟨rfl, hF2, hA2, x2, hx2, hX2⟩; (first | (obtain rfl := hx2 (.inl rfl)) | (obtain rfl := hx2 (.inr rfl)) | skip); have HX2 := Lib.hid hX2; have hvc : w2.cell? ⟨V, 0, none⟩ = _ := hX2.cell rfl; have HF2 := Lib.hid (HF.out.trans hF2); have HA2 := Lib.hid hA2; have hmode := hA2.mode; have hfz := hA2.chc.2; clear hF2 hA2 hX2 HX HF HA; have HX := HX2; have HF := HF2; have HA := HA2; clear HX2 HF2 HA2))
    go_wp2_with ((go_at_call 86; refine (digits_nil HA.out hr3.le hr3.dig hr3.fin hr3.us).mono ?_; rintro e w2 ⟨rfl, hF2, hA2⟩; have HX2 := Lib.hid (hF2.keep V _ HX.out hVB hVR (fun c f e => by injection e with _ e2; exact absurd e2 (by decide))); have HF2 := Lib.hid (HF.out.trans (hF2.fx V)); have HA2 := Lib.hid hA2; have hmode := hA2.mode; have hfz := hA2.chc.2; clear hF2 hA2 HX HF HA; have HX := HX2; have HF := HF2; have HA := HA2; clear HX2 HF2 HA2))
    go_ret2
    exact ⟨⟨_, by decide, rfl⟩, Fr.of_fx H0.out HF.out HV.out, HA.out⟩
set_option maxHeartbeats 40000000 in
theorem scanNumber_int {base B R : Nat} {s : ByteArray} {w : World} {k n1 n3 n6 : Nat} {st : Option Nat} {te ch : Int} {pk : ByteArray} {ef : Value} (h : At base B R s w k st te ch pk ef) (hk1 : k < n1)
    (hz : (ru s k = 48 ∧ n1 = k + 1 ∧ Run s (k + 1) n1 ∧ bits BinOp.or IntKind.i32 32 (ru s (k + 1)) ≠ 120 ∧ bits BinOp.or IntKind.i32 32 (ru s (k + 1)) ≠ 111 ∧ bits BinOp.or IntKind.i32 32 (ru s (k + 1)) ≠ 98) ∨ (ru s k ≠ 48 ∧ Run s k n1))
    (hdot : (ru s n1 = 46 ∧ Run s (n1 + 1) n3) ∨ (ru s n1 ≠ 46 ∧ n3 = n1)) (hexp : ExpAt s n3 n6) :
    Calls Tryz.prog 71 #[.pointer (some ⟨B, 0, none⟩), .int .i32 (ru s k), .bool false] w fun e w' => (∃ t : Int, t ≠ -1 ∧ e = .returned (.tuple #[.int .i32 t, .int .i32 (ru s n6)])) ∧ Fr base B R w w' ∧ At base B R s w' n6 st te ch pk ef := by
  rcases hz with hz | hz <;> rcases hdot with hd | hd
  · exact scanNumber_zd h hk1 hz hd hexp
  · exact scanNumber_zn h hk1 hz hd hexp
  · exact scanNumber_nd h hk1 hz hd hexp
  · exact scanNumber_nn h hk1 hz hd hexp
set_option maxHeartbeats 40000000 in
theorem scanNumber_dot {base B R : Nat} {s : ByteArray} {w : World} {k n3 n6 : Nat} {st : Option Nat} {te ch : Int} {pk : ByteArray} {ef : Value} (h : At base B R s w k st te ch pk ef) (hk1 : k < n3) (hr1 : Run s k n3) (hexp : ExpAt s n3 n6) :
    Calls Tryz.prog 71 #[.pointer (some ⟨B, 0, none⟩), .int .i32 (ru s k), .bool true] w fun e w' => (∃ t : Int, t ≠ -1 ∧ e = .returned (.tuple #[.int .i32 t, .int .i32 (ru s n6)])) ∧ Fr base B R w w' ∧ At base B R s w' n6 st te ch pk ef := by
  obtain ⟨hB0, hR0, hBR, hBw, hRw⟩ := h.bw
  have hbw := h.env.heap
  obtain ⟨V, hVV⟩ : ∃ V, w.heap.size = V := ⟨_, rfl⟩
  have hV : base ≤ V := by omega
  have hVB : V ≠ B := by omega
  have hVR : V ≠ R := by omega
  have hA0 := h.alloc (.cells #[.int .i32 0] 21)
  have hX0 : Row (w.alloc (.cells #[.int .i32 0] 21)) V #[.int .i32 0] 21 := hVV ▸ Row.new w #[.int .i32 0] 21
  have H0 := Lib.hid ((Fr.refl base B R w).alloc hbw (.cells #[.int .i32 0] 21))
  have HA := Lib.hid hA0
  have HX := Lib.hid hX0
  have HF := Lib.hid (Fx.refl base B R V (w.alloc (.cells #[.int .i32 0] 21)))
  have HV := Lib.hid (Nat.le_of_eq hVV)
  have hor := orU
  have hdt : d01 true = 1 := rfl
  have h01 := orA
  have h11 := andA
  have h12 := andB
  have h28 := andM
  have hd1 := d01_lt hk1
  have hmode := hA0.mode
  have hfz := hA0.chc.2
  have HW := Lib.hid hbw
  clear hA0 hX0 h hbw hBw hRw
  have hks := True.intro
  have HS1 : Hid (∀ m, ru s m = 46 → m < s.size) := Lib.hid fun m h => lt_of_ru (by omega)
  have HS2 : Hid (∀ m, bits BinOp.or IntKind.i32 32 (ru s m) = 101 → m < s.size) := Lib.hid fun m h => lt_of_ru (fun e => by rw [e] at h; exact absurd h (by decide))
  have HS3 : Hid (∀ m, (ru s m = 43 ∨ ru s m = 45) → m < s.size) := Lib.hid fun m h => lt_of_ru (by omega)
  go_enter Tryz.func71, Tryz.ntmps71
  go_upto_region 9 with (fail)
  clear hVV
  generalize w.alloc (.cells #[.int .i32 0] 21) = w0 at H0 HA HX HF hmode hfz ⊢
  have hexp' := hexp.view
  clear hexp
  rcases hexp' with ⟨hle, tle, n112, q, ⟨hsg, t1, rfl⟩ | ⟨hsg, t1, t2, rfl⟩ | ⟨hs1, hs2, rfl⟩, hr3, hq⟩ | ⟨hle, hlp, rfl⟩
  case inr =>
    go_wp2_with (first | (go_at_call 66; refine (next_at HA.out (by first | exact HS1.out _ h46.out | exact HS2.out _ hle.out | exact HS3.out _ hsg.out)).mono ?_; rintro e w2 ⟨rfl, hF2, hA2⟩; have HX2 := Lib.hid (hF2.keep V _ HX.out hVB hVR (fun c f e => by injection e with _ e2; exact absurd e2 (by decide))); have HF2 := Lib.hid (HF.out.trans (hF2.fx V)); have HA2 := Lib.hid hA2; have hmode := hA2.mode; have hfz := hA2.chc.2; clear hF2 hA2 HX HF HA; have HX := HX2; have HF := HF2; have HA := HA2; clear HX2 HF2 HA2) | (go_at_call 85; refine (lower_any _ _).mono ?_; rintro _ _ ⟨rfl, rfl⟩) | (go_at_call 86; refine (digits_run HA.out (by first | exact hr1 | exact hr2 | exact hr3) (by decide) hV hVB hVR HX.out).mono ?_; rintro e w2 ⟨rfl, hF2, hA2, x2, hx2, hX2⟩; (first | (obtain rfl := hx2 (.inl rfl)) | (obtain rfl := hx2 (.inr rfl)) | skip); have HX2 := Lib.hid hX2; have hvc : w2.cell? ⟨V, 0, none⟩ = _ := hX2.cell rfl; have HF2 := Lib.hid (HF.out.trans hF2); have HA2 := Lib.hid hA2; have hmode := hA2.mode; have hfz := hA2.chc.2; clear hF2 hA2 hX2 HX HF HA; have HX := HX2; have HF := HF2; have HA := HA2; clear HX2 HF2 HA2))
    go_ret2
    exact ⟨⟨_, by decide, rfl⟩, Fr.of_fx H0.out HF.out HV.out, HA.out⟩
  all_goals
    have hd3 := d01_lt hq
    go_upto_region 46 with (first | (go_at_call 66; refine (next_at HA.out (by first | exact HS1.out _ h46.out | exact HS2.out _ hle.out | exact HS3.out _ hsg.out)).mono ?_; rintro e w2 ⟨rfl, hF2, hA2⟩; have HX2 := Lib.hid (hF2.keep V _ HX.out hVB hVR (fun c f e => by injection e with _ e2; exact absurd e2 (by decide))); have HF2 := Lib.hid (HF.out.trans (hF2.fx V)); have HA2 := Lib.hid hA2; have hmode := hA2.mode; have hfz := hA2.chc.2; clear hF2 hA2 HX HF HA; have HX := HX2; have HF := HF2; have HA := HA2; clear HX2 HF2 HA2) | (go_at_call 85; refine (lower_any _ _).mono ?_; rintro _ _ ⟨rfl, rfl⟩) | (go_at_call 86; refine (digits_run HA.out (by first | exact hr1 | exact hr2 | exact hr3) (by decide) hV hVB hVR HX.out).mono ?_; rintro e w2 ⟨rfl, hF2, hA2, x2, hx2, hX2⟩; (first | (obtain rfl := hx2 (.inl rfl)) | (obtain rfl := hx2 (.inr rfl)) | skip); have HX2 := Lib.hid hX2; have hvc : w2.cell? ⟨V, 0, none⟩ = _ := hX2.cell rfl; have HF2 := Lib.hid (HF.out.trans hF2); have HA2 := Lib.hid hA2; have hmode := hA2.mode; have hfz := hA2.chc.2; clear hF2 hA2 hX2 HX HF HA; have HX := HX2; have HF := HF2; have HA := HA2; clear HX2 HF2 HA2))
    go_wp2_with ((go_at_call 86; refine (digits_nil HA.out hr3.le hr3.dig hr3.fin hr3.us).mono ?_; rintro e w2 ⟨rfl, hF2, hA2⟩; have HX2 := Lib.hid (hF2.keep V _ HX.out hVB hVR (fun c f e => by injection e with _ e2; exact absurd e2 (by decide))); have HF2 := Lib.hid (HF.out.trans (hF2.fx V)); have HA2 := Lib.hid hA2; have hmode := hA2.mode; have hfz := hA2.chc.2; clear hF2 hA2 HX HF HA; have HX := HX2; have HF := HF2; have HA := HA2; clear HX2 HF2 HA2))
    go_ret2
    exact ⟨⟨_, by decide, rfl⟩, Fr.of_fx H0.out HF.out HV.out, HA.out⟩
end Go.Proofs.YtadpeebcombjnaaGreatDoor
