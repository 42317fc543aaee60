/- Scanner.Scan: the next token of the text, or the end. -/
import Derived.Test.YtadpeebcombjnaaGreatDoorT1
import Derived.Test.YtadpeebcombjnaaGreatDoorL9
import Derived.WalkMore
import Derived.Deep.CutBlock
namespace Go.Proofs.YtadpeebcombjnaaGreatDoor
open Go Go.Proofs Go.RowKit Go.Lib
set_option maxRecDepth 100000
/-- The scanner's numbers at place k. -/
theorem At.cells {base B R : Nat} {s : ByteArray} {w : World} {k : Nat} {st : Option Nat} {te ch : Int} {pk : ByteArray} {ef : Value} (h : At base B R s w k st te ch pk ef) :
    ∃ (p off : Nat) (lc tp x29 x30 x31 x45 x46 x47 : Int), w.cell? ⟨B, 1026, none⟩ = some (.int .i64 (p : Int)) ∧ w.cell? ⟨B, 1028, none⟩ = some (.int .i64 (off : Int)) ∧ w.cell? ⟨B, 1029, none⟩ = some (.int .i64 x29) ∧ w.cell? ⟨B, 1030, none⟩ = some (.int .i64 x30) ∧
      w.cell? ⟨B, 1031, none⟩ = some (.int .i64 x31) ∧ w.cell? ⟨B, 1032, none⟩ = some (.int .i64 lc) ∧ w.cell? ⟨B, 1036, none⟩ = some (.int .i64 tp) ∧ w.cell? ⟨B, 1041, none⟩ = some (.int .u64 28) ∧ w.cell? ⟨B, 1042, none⟩ = some (.int .u64 4294977024) ∧
      w.cell? ⟨B, 1037, none⟩ = some (.int .i64 te) ∧ w.cell? ⟨B, 1038, none⟩ = some (.int .i32 ch) ∧ w.cell? ⟨B, 1045, none⟩ = some (.int .i64 x45) ∧ w.cell? ⟨B, 1046, none⟩ = some (.int .i64 x46) ∧ w.cell? ⟨B, 1047, none⟩ = some (.int .i64 x47) ∧
      (∀ j, w.frozen? ⟨B, j, none⟩ = false) ∧ (p : Int) ≤ 1024 ∧ 0 ≤ lc ∧ lc ≤ (p : Int) ∧ (off : Int) ≤ 2000 ∧ -1 ≤ tp ∧ tp ≤ 1024 := by
  obtain ⟨C, off, p, e, tp, tb, l, hx, hlc⟩ := h.lx
  obtain ⟨x29, c29⟩ := hx.scn.line
  obtain ⟨x30, c30⟩ := hx.scn.col
  obtain ⟨x31, c31⟩ := hx.scn.lll
  obtain ⟨x45, c45⟩ := hx.scn.o1
  obtain ⟨x46, c46⟩ := hx.scn.l1
  obtain ⟨x47, c47⟩ := hx.scn.c1
  have h1 := hx.scn.ele
  have h2 := hx.pe
  have h3 := hx.oe
  have h4 := h.env.size
  have h5 := hx.col.tp_le
  have h6 : -1 ≤ tp := by
    have hc := hx.col
    generalize (st.map fun a => txt s a (k + 1)) = o at hc
    cases o with
    | none => have hc : tp = -1 := hc
              omega
    | some t => obtain ⟨a, ha, _⟩ := hc
                omega
  refine ⟨p, off, _, tp, x29, x30, x31, x45, x46, x47, hx.row.cell hx.scn.pos, hx.row.cell hx.scn.boff, hx.row.cell c29, hx.row.cell c30, hx.row.cell c31, hx.row.cell hx.scn.lcl, hx.row.cell hx.scn.tpv, hx.row.cell hx.scn.modev, hx.row.cell hx.scn.ws, hx.row.cell hx.scn.tev, hx.row.cell hx.scn.chv, hx.row.cell c45, hx.row.cell c46, hx.row.cell c47, hx.row.frozen, by omega, ?_, hlc.1, by omega, h6, by omega⟩
  split <;> omega
theorem own_mod {w w' : World} {base B n : Nat} {v : Value} {xs : List Value} {C : Array Value} {t : TypeId} (h : w.ownsRow base 5 1 v n xs) (hrow : Row w B C t) (ht : t ≠ 5) (hm : Mod (· = B) w w') : w'.ownsRow base 5 1 v n xs := by
  obtain ⟨h1, h2⟩ := h
  refine ⟨h1, ?_⟩
  rcases h2 with h2 | ⟨g, cap, cur, hv, hg, hh, r⟩
  · exact .inl h2
  · refine .inr ⟨g, cap, cur, hv, hg, hm.keep hh ?_, r⟩
    rintro rfl
    have e := hh.symm.trans hrow
    injection e with e
    injection e with _ e2
    exact ht e2.symm
/-- Reset of the buffer of the token's text, and what the store of the token's beginning makes then. -/
theorem reset_at {base B R : Nat} {s : ByteArray} {w : World} {k : Nat} {te ch : Int} {pk : ByteArray} {ef : Value} (h : At base B R s w k none te ch pk ef) :
    Calls Tryz.prog 67 #[.pointer (some ⟨B, 1033, none⟩)] w fun e w' => e = .returned (.tuple #[]) ∧ Fr base B R w w' ∧ At base B R s w' k none te ch pk ef ∧
      ∀ (n p : Nat) (lc : Int), w'.cell? ⟨B, 1026, none⟩ = some (.int .i64 (p : Int)) → w'.cell? ⟨B, 1032, none⟩ = some (.int .i64 lc) → At base B R s ((w'.drewN n).setCell ⟨B, 1036, none⟩ (.int .i64 ((p : Int) - lc))) k (some k) te ch pk ef := by
  obtain ⟨C, off, p, e, tp, tb, l, hx, hlc⟩ := h.lx
  obtain ⟨a, n, c, htb⟩ : ∃ a n c, tb = .slice a n c := by
    rcases hx.own.2 with ⟨h1, _⟩ | ⟨g, cap, cur, hv, _⟩
    · exact ⟨_, _, _, h1⟩
    · exact ⟨_, _, _, hv⟩
  subst htb
  refine (reset_any B 1033 n c a C 103 w hx.row hx.scn.tbv ⟨0, hx.scn.tbo⟩ hx.scn.tbl).mono ?_
  rintro e' w' ⟨rfl, hrow, hmod⟩
  have hF : Fr base B R w w' := Fr.of_mod hmod (fun _ h => .inr h) hx.hB hx.hR h.env.heap
  have hscn := ((hx.scn.setTb (.slice a 0 c)).setTbo).setTbl 0
  have hE : ∀ {w2 : World}, Below base w' w2 → Env base s w2 := fun hb => h.env.mono (hF.below.trans hb)
  obtain ⟨pr, hpr⟩ := hx.rd
  have hpr' := hmod.keep hpr (fun e => hx.ne e.symm)
  have hown := own_reset (own_mod hx.own hx.row (by decide) hmod)
  have hpk : (((C.setIfInBounds 1033 (.slice a 0 c)).setIfInBounds (1033 + 1) (.int .i64 0)).setIfInBounds (1033 + 2) (.int .i8 0))[1048]? = some (.string pk) := by
    repeat (refine (set_ne (by decide) _).trans ?_)
    exact hx.pkc
  refine ⟨rfl, hF, ⟨hE (Below.refl _ _), h.kle, nofun, _, off, p, e, tp, _, [], ⟨hx.hB, hx.hR, hx.ne, hrow, hscn, hpk, ⟨pr, hpr'⟩, hown, hx.pe, hx.oe, hx.q, Nat.zero_le _, hx.col⟩, hlc⟩, ?_⟩
  intro n p2 lc2 e26 e32
  have hp := e26.symm.trans (hrow.cell hscn.pos)
  have hl := e32.symm.trans (hrow.cell hscn.lcl)
  injection hp with hp
  injection hp with _ hp
  injection hl with hl
  injection hl with _ hl
  obtain rfl : p2 = p := by omega
  subst hl
  have hk : ∀ g, g ≠ B → ((w'.drewN n).setCell ⟨B, 1036, none⟩ (.int .i64 ((p2 : Int) - (if k < s.size then 1 else 0)))).heap[g]? = w'.heap[g]? := fun g hg => set_oth _ _ _ _ _ hg
  obtain ⟨a0, ha0⟩ : ∃ a0 : Nat, (p2 : Int) - (if k < s.size then 1 else 0) = a0 := ⟨((p2 : Int) - (if k < s.size then 1 else 0)).toNat, by have := hlc.1; omega⟩
  have hq := hx.q
  have hkl := h.kle
  refine ⟨hE (((Fr.refl base B R w').drewN n).below.setCell (p := ⟨B, 1036, none⟩) hx.hB _), h.kle, fun a ha => by injection ha with ha; omega, _, off, p2, e, _, _, [], ⟨hx.hB, hx.hR, hx.ne, Row.set (w := w'.drewN n) hrow 1036 _, hscn.setTp _, (set_ne (by decide) _).trans hpk,
    ⟨pr, (hk R (fun e => hx.ne e.symm)).trans hpr'⟩, own_far hown hrow (by decide) hk, hx.pe, hx.oe, hx.q, Nat.zero_le _, ?_⟩, ?_⟩
  · rw [ha0]
    refine ⟨a0, rfl, by omega, by simp, ?_⟩
    have e1 : off + a0 = k := by split at ha0 <;> omega
    show txt s k (k + 1) = _
    rw [e1, List.nil_append]
    unfold txt
    rw [show k + 1 - k = 1 from by omega]
    by_cases hlt : k < s.size
    · rw [if_pos hlt] at ha0
      rw [show p2 - a0 = 1 from by omega]
    · rw [List.drop_eq_nil_of_le (by rw [size_list]; omega)]; simp
  · exact ⟨hlc.1, by omega⟩
theorem lt_of_blank {s : ByteArray} {m : Nat} (h : blI (ru s m) = true) : m < s.size := lt_of_ru fun e => by rw [e] at h; exact absurd h (by decide)
theorem At.setL1 {base B R : Nat} {s : ByteArray} {w : World} {k : Nat} {st : Option Nat} {te ch : Int} {pk : ByteArray} {ef : Value} (h : At base B R s w k st te ch pk ef) (x : Int) : At base B R s (w.setCell ⟨B, 1046, none⟩ (.int .i64 x)) k st te ch pk ef :=
  h.set 1046 _ (by decide) fun _ _ _ _ _ _ _ hs => hs.setL1 x
theorem At.setC1 {base B R : Nat} {s : ByteArray} {w : World} {k : Nat} {st : Option Nat} {te ch : Int} {pk : ByteArray} {ef : Value} (h : At base B R s w k st te ch pk ef) (x : Int) : At base B R s (w.setCell ⟨B, 1047, none⟩ (.int .i64 x)) k st te ch pk ef :=
  h.set 1047 _ (by decide) fun _ _ _ _ _ _ _ hs => hs.setC1 x
theorem At.setO1 {base B R : Nat} {s : ByteArray} {w : World} {k : Nat} {st : Option Nat} {te ch : Int} {pk : ByteArray} {ef : Value} (h : At base B R s w k st te ch pk ef) (x : Int) : At base B R s (w.setCell ⟨B, 1045, none⟩ (.int .i64 x)) k st te ch pk ef :=
  h.set 1045 _ (by decide) fun _ _ _ _ _ _ _ hs => hs.setO1 x
theorem At.setTe {base B R : Nat} {s : ByteArray} {w : World} {k : Nat} {st : Option Nat} {te ch : Int} {pk : ByteArray} {ef : Value} (h : At base B R s w k st te ch pk ef) (x : Int) : At base B R s (w.setCell ⟨B, 1037, none⟩ (.int .i64 x)) k st x ch pk ef :=
  h.set 1037 _ (by decide) fun _ _ _ _ _ _ _ hs => hs.setTe x
theorem ws_fin : ∀ n : Fin 128, (bits BinOp.and IntKind.u64 4294977024 (IntKind.u64.wrap (2 ^ min (IntKind.u64.wrap (n.val : Int)).toNat 64)) != 0) = blI (n.val : Int) := by decide
theorem ws_bl {c : Int} (h : c = -1 ∨ (0 ≤ c ∧ c < 128)) : (bits BinOp.and IntKind.u64 4294977024 (IntKind.u64.wrap (2 ^ min (IntKind.u64.wrap c).toNat 64)) != 0) = blI c := by
  rcases h with rfl | ⟨h1, h2⟩
  · decide
  · obtain ⟨n, rfl⟩ := Int.eq_ofNat_of_zero_le h1
    exact ws_fin ⟨n, by omega⟩
/-- The token from a to n has been read. -/
def Done (base B R : Nat) (s : ByteArray) (w : World) (a n : Nat) (pk : ByteArray) (ef : Value) : Prop :=
  ∃ te : Int, At base B R s w n (some a) te (ru s n) pk ef ∧ ∀ (p : Nat) (lc : Int), w.cell? ⟨B, 1026, none⟩ = some (.int .i64 (p : Int)) → w.cell? ⟨B, 1032, none⟩ = some (.int .i64 lc) → te = (p : Int) - lc
set_option maxHeartbeats 4000000 in
theorem scan_any {base B R : Nat} {s : ByteArray} {w : World} {k a n : Nat} {te : Int} {pk : ByteArray} {ef : Value}
    (hpeek : Calls Tryz.prog 65 #[.pointer (some ⟨B, 0, none⟩)] w fun e w' => e = .returned (.int .i32 (ru s k)) ∧ Fr base B R w w' ∧ ∃ st ch', At base B R s w' k st te ch' pk ef)
    (hB : base ≤ B) (hka : k ≤ a) (hbl : ∀ j, k ≤ j → j < a → blI (ru s j) = true) (hnb : blI (ru s a) = false) (hway : a = s.size ∨ (a < n ∧ n ≤ s.size ∧ TWay s a n)) :
    Calls Tryz.prog 60 #[.pointer (some ⟨B, 0, none⟩)] w fun e w' => Fr base B R w w' ∧ ((a = s.size ∧ e = .returned (.int .i32 (-1))) ∨ (a < s.size ∧ (∃ t : Int, t ≠ -1 ∧ e = .returned (.int .i32 t)) ∧ Done base B R s w' a n pk ef)) := by
  have HW := Lib.hid hway
  have HBL := Lib.hid hbl
  have HN := Lib.hid hnb
  clear hway hbl hnb
  go_enter Tryz.func60, Tryz.ntmps60
  go_wp2_with fail
  go_step3
  go_wp2_with (first | (go_at_call 65; refine hpeek.mono ?_; rintro e w1 ⟨rfl, hF, st, ch', hA⟩; obtain ⟨p, off, lc, tp, x29, x30, x31, x45, x46, x47, d26, d28, d29, d30, d31, d32, d36, d41, d42, d37, d38, d45, d46, d47, hfz, b1, b2, b3, b4, b5, b6⟩ := hA.cells; have hA := Lib.hid hA; have hF := Lib.hid hF))
  go_step3
  go_wp2_with fail
  go_loopg [3] (a - k) (fun g c wr => ∃ m : Nat, m + g = a ∧ k ≤ m ∧ c = .int .i32 (ru s m) ∧ Hid (Fr base B R w wr) ∧ Hid (At base B R s wr m none te ch' pk ef))
  case atStart => exact ⟨k, by omega, Nat.le_refl _, rfl, Lib.hid ((hF.out.setB hB _).setB hB _), Lib.hid (hA.out.forget.setL1 0)⟩
  case round =>
    obtain ⟨m, hm1, hm2, rfl, HF, HA⟩ := hrel
    clear hA hF hpeek d26 d28 d29 d30 d31 d32 d36 d41 d42 d37 d38 d45 d46 d47 hfz b1 b2 b3 b4 b5 b6
    obtain ⟨p, off, lc, tp, x29, x30, x31, x45, x46, x47, d26, d28, d29, d30, d31, d32, d36, d41, d42, d37, d38, d45, d46, d47, hfz, b1, b2, b3, b4, b5, b6⟩ := HA.out.cells
    have hws := ws_bl (by have := ru_bounds HA.out.env m; omega : ru s m = -1 ∨ (0 ≤ ru s m ∧ ru s m < 128))
    by_cases hma : m < a
    · have hb := HBL.out m hm2 hma
      have hnext := next_at HA.out (lt_of_blank hb)
      rw [hb] at hws
      clear hb
      go_wp2_with (first | (go_at_call 66; refine hnext.mono ?_; rintro e w2 ⟨rfl, hF2, hA2⟩; have hF2 := Lib.hid hF2; have hA2 := Lib.hid hA2))
      go_roundg (a - (m + 1))
      case measure => omega
      case rel => exact ⟨m + 1, by omega, by omega, rfl, Lib.hid (HF.out.trans hF2.out), hA2⟩
    · obtain rfl : m = a := by omega
      rw [HN.out] at hws
      have hreset := reset_at HA.out
      go_wp2_with (first | (go_at_call 67; refine hreset.mono ?_; rintro e w2 ⟨rfl, hF2, hA2, hS2⟩; have hF2 := Lib.hid hF2; have hA2 := Lib.hid hA2; have hS2 := Lib.hid hS2))
      clear d26 d28 d29 d30 d31 d32 d36 d41 d42 d37 d38 d45 d46 d47 hfz b1 b2 b3 b4 b5 b6
      obtain ⟨p, off, lc, tp, x29, x30, x31, x45, x46, x47, d26, d28, d29, d30, d31, d32, d36, d41, d42, d37, d38, d45, d46, d47, hfz, b1, b2, b3, b4, b5, b6⟩ := hA2.out.cells
      refine wp_region_still_tail 12 (by kernel_rfl) (by kernel_rfl) ?_
      simp only [List.take_succ_cons, List.take_zero, List.drop_succ_cons, List.drop_zero]
      rw [show ({ heap := w2.heap, tape := w2.tape, drawn := w2.drawn + 1, os := w2.os, output := w2.output } : World) = w2.drew from rfl]
      repeat still_step
      refine wpStill_nil ?_
      go_upto_region 8 with (fail)
      have HA3 : Hid (At base B R s (w2.setCell ⟨B, 1036, none⟩ (.int .i64 ((p : Int) - lc))).drew m (some m) te ch' pk ef) := Lib.hid ((hS2.out 0 p lc d26 d32).drewN 1)
      have HF3 : Hid (Fr base B R w (w2.setCell ⟨B, 1036, none⟩ (.int .i64 ((p : Int) - lc))).drew) := Lib.hid (((HF.out.trans hF2.out).setB hB _).drewN 1)
      clear d26 d28 d29 d30 d31 d32 d36 d41 d42 d37 d38 d45 d46 d47 hfz b1 b2 b3 b4 b5 b6
      clear hF2 hA2 hS2 HF HA
      generalize (w2.setCell ⟨B, 1036, none⟩ (.int .i64 ((p : Int) - lc))).drew = w3 at HA3 HF3 ⊢
      clear hreset hF hA
      obtain ⟨p, off, lc, tp, x29, x30, x31, x45, x46, x47, d26, d28, d29, d30, d31, d32, d36, d41, d42, d37, d38, d45, d46, d47, hfz, b1, b2, b3, b4, b5, b6⟩ := HA3.out.cells
      refine wp_region_still_tail 13 (by kernel_rfl) (by kernel_rfl) ?_
      simp only [List.take_succ_cons, List.take_zero, List.drop_succ_cons, List.drop_zero]
      rw [show ({ heap := w3.heap, tape := w3.tape, drawn := w3.drawn + 1, os := w3.os, output := w3.output } : World) = w3.drew from rfl]
      repeat still_step
      refine wpStill_nil ?_
      go_upto_region 9 with (fail)
      have HA4 : Hid (At base B R s (w3.setCell ⟨B, 1045, none⟩ (.int .i64 ((off : Int) + tp))).drew m (some m) te ch' pk ef) := Lib.hid ((HA3.out.setO1 _).drewN 1)
      have HF4 : Hid (Fr base B R w (w3.setCell ⟨B, 1045, none⟩ (.int .i64 ((off : Int) + tp))).drew) := Lib.hid ((HF3.out.setB hB _).drewN 1)
      clear d26 d28 d29 d30 d31 d32 d36 d41 d42 d37 d38 d45 d46 d47 hfz b1 b2 b3 b4 b5 b6
      clear HF3 HA3
      generalize (w3.setCell ⟨B, 1045, none⟩ (.int .i64 ((off : Int) + tp))).drew = w4 at HA4 HF4 ⊢
      obtain ⟨p, off, lc, tp, x29, x30, x31, x45, x46, x47, d26, d28, d29, d30, d31, d32, d36, d41, d42, d37, d38, d45, d46, d47, hfz, b1, b2, b3, b4, b5, b6⟩ := HA4.out.cells
      go_upto_if 58 with (fail)
      go_cut [] from 54 to 91 (fun wx => Hid (Fr base B R w wx) ∧ Hid (At base B R s wx m (some m) te ch' pk ef))
      case first =>
        by_cases h0 : 0 < x30
        · go_wp2_with fail
          go_meet
          exact ⟨Lib.hid ((HF4.out.setB hB _).setB hB _), Lib.hid ((HA4.out.setL1 _).setC1 _)⟩
        · go_wp2_with fail
          go_meet
          exact ⟨Lib.hid ((HF4.out.setB hB _).setB hB _), Lib.hid ((HA4.out.setL1 _).setC1 _)⟩
      case rest =>
        obtain ⟨HF5, HA5⟩ := hcut
        clear d26 d28 d29 d30 d31 d32 d36 d41 d42 d37 d38 d45 d46 d47 hfz b1 b2 b3 b4 b5 b6
        clear HF4 HA4
        obtain ⟨p, off, lc, tp, x29, x30, x31, x45, x46, x47, d26, d28, d29, d30, d31, d32, d36, d41, d42, d37, d38, d45, d46, d47, hfz, b1, b2, b3, b4, b5, b6⟩ := HA5.out.cells
        have hru := ru_bounds HA5.out.env m
        obtain ⟨Cr, hrow, h43⟩ := HA5.out.row
        have hidr := isIdentRune_any (i := 0) hrow h43 (by omega : ru s m = -1 ∨ (0 ≤ ru s m ∧ ru s m < 128))
        clear hrow h43
        have hm4 : bits BinOp.and IntKind.u64 28 4 = 4 := by decide
        have hm24 : bits BinOp.and IntKind.u64 28 24 = 24 := by decide
        have hm16 := andM
        have hHR := Lib.hid hru
        clear hru
        go_upto_block 2 with (fail)
        go_cut [3, 4] from 93 to 217 (fun c t wx => Hid (Fr base B R w wx) ∧ ((m = s.size ∧ t = .int .i32 (-1) ∧ c = .int .i32 (-1) ∧ Hid (At base B R s wx m (some m) te ch' pk ef)) ∨ (m < s.size ∧ ∃ t' : Int, t = .int .i32 t' ∧ t' ≠ -1 ∧ c = .int .i32 (ru s n) ∧ Hid (At base B R s wx n (some m) te ch' pk ef))))
        case first =>
          rcases HW.out with hms | ⟨hmn, hns, hw⟩
          · have hbig : ru s m = -1 := ru_ge (Nat.le_of_eq hms.symm)
            have hi : idI (ru s m) 0 = false := by rw [hbig]; decide
            have hd : digI (ru s m) = false := by rw [hbig]; decide
            have hone : (ru s m == -1) = true := by rw [hbig]; decide
            have HBIG := Lib.hid hbig
            have HMS := Lib.hid hms
            clear hbig hms
            go_wp2_with (first | (go_at_call 68; refine hidr.mono ?_; rintro _ _ ⟨rfl, rfl⟩) | (go_at_call 70; refine (isDecimal_any _ _).mono ?_; rintro _ _ ⟨rfl, rfl⟩))
            go_meet
            exact ⟨HF5, .inl ⟨HMS.out, by rw [HBIG.out], by rw [HBIG.out], HA5⟩⟩
          · have hms : m < s.size := by omega
            cases hw with
            | word hi h1 h2 =>
              have hsc := scanIdentifier_any HA5.out hms hmn h1 h2
              clear h2
              go_wp2_with (first | (go_at_call 68; refine hidr.mono ?_; rintro _ _ ⟨rfl, rfl⟩) | (go_at_call 69; refine hsc.mono ?_; rintro e w6 ⟨rfl, hF6, hA6⟩; have hF6 := Lib.hid hF6; have hA6 := Lib.hid hA6))
              go_meet
              exact ⟨Lib.hid (HF5.out.trans hF6.out), .inr ⟨hms, _, rfl, by decide, rfl, hA6⟩⟩
            | int hd n1 n3 h1 hz hdot hexp =>
              have hsc := scanNumber_int HA5.out h1 hz hdot hexp
              clear hz hdot hexp
              have hi : idI (ru s m) 0 = false := by
                have := digI_iff.1 hd
                unfold idI letI' digI
                simp; omega
              go_wp2_with (first | (go_at_call 68; refine hidr.mono ?_; rintro _ _ ⟨rfl, rfl⟩) | (go_at_call 70; refine (isDecimal_any _ _).mono ?_; rintro _ _ ⟨rfl, rfl⟩) | (go_at_call 71; refine hsc.mono ?_; rintro e w6 ⟨⟨t, ht, rfl⟩, hF6, hA6⟩; have hF6 := Lib.hid hF6; have hA6 := Lib.hid hA6))
              go_meet
              exact ⟨Lib.hid (HF5.out.trans hF6.out), .inr ⟨hms, _, rfl, ht, rfl, hA6⟩⟩
            | dot h46 n3 h1 h2 hexp =>
              have hnext := next_at HA5.out hms
              have hdg : digI (ru s (m + 1)) = true := h2.dig _ (Nat.le_refl _) h1
              have hi : idI (ru s m) 0 = false := by rw [h46]; decide
              have hd : digI (ru s m) = false := by rw [h46]; decide
              have t46 : (ru s m == 46) = true := by rw [h46]; decide
              have n1 : ¬ ru s m = -1 := by omega
              have n2 : ¬ ru s m = 34 := by omega
              have n3' : ¬ ru s m = 39 := by omega
              have HH := Lib.hid h46
              have H2 := Lib.hid (And.intro h2 hexp)
              clear h46 h2 hexp
              go_wp2_with (first | (go_at_call 68; refine hidr.mono ?_; rintro _ _ ⟨rfl, rfl⟩) | (go_at_call 70; refine (isDecimal_any _ _).mono ?_; rintro _ _ ⟨rfl, rfl⟩) | (go_at_call 66; refine hnext.mono ?_; rintro e w5 ⟨rfl, hF5', hA5'⟩; have hF5' := Lib.hid hF5'; have hA5' := Lib.hid hA5'; have d41' := hA5'.out.mode; have hfz' := hA5'.out.chc.2) | (go_at_call 71; refine (scanNumber_dot hA5'.out h1 H2.out.1 H2.out.2).mono ?_; rintro e w6 ⟨⟨t, ht, rfl⟩, hF6, hA6⟩; have hF6 := Lib.hid hF6; have hA6 := Lib.hid hA6))
              go_meet
              exact ⟨Lib.hid ((HF5.out.trans hF5'.out).trans hF6.out), .inr ⟨hms, _, rfl, ht, rfl, hA6⟩⟩
            | sign hs hn =>
              subst hn
              have hnext := next_at HA5.out hms
              have hi : idI (ru s m) 0 = false := by rcases hs with e | e | e | e <;> rw [e] <;> decide
              have hd : digI (ru s m) = false := by rcases hs with e | e | e | e <;> rw [e] <;> decide
              have n1 : ¬ ru s m = -1 := by omega
              have n2 : ¬ ru s m = 34 := by omega
              have n3 : ¬ ru s m = 39 := by omega
              have n4 : ¬ ru s m = 46 := by omega
              have n5 : ¬ ru s m = 47 := by omega
              have n6 : ¬ ru s m = 96 := by omega
              have HS := Lib.hid hs
              clear hs
              go_wp2_with (first | (go_at_call 68; refine hidr.mono ?_; rintro _ _ ⟨rfl, rfl⟩) | (go_at_call 70; refine (isDecimal_any _ _).mono ?_; rintro _ _ ⟨rfl, rfl⟩) | (go_at_call 66; refine hnext.mono ?_; rintro e w6 ⟨rfl, hF6, hA6⟩; have hF6 := Lib.hid hF6; have hA6 := Lib.hid hA6))
              go_meet
              exact ⟨Lib.hid (HF5.out.trans hF6.out), .inr ⟨hms, _, rfl, n1, rfl, hA6⟩⟩
        case rest =>
          obtain ⟨HF6, hcc⟩ := hcut
          clear d26 d28 d29 d30 d31 d32 d36 d41 d42 d37 d38 d45 d46 d47 hfz b1 b2 b3 b4 b5 b6
          clear HF5 HA5 hm4 hm24 hm16 hidr
          rcases hcc with ⟨hms, rfl, rfl, HA6⟩ | ⟨hms, t', rfl, ht', rfl, HA6⟩
          · obtain ⟨p, off, lc, tp, x29, x30, x31, x45, x46, x47, d26, d28, d29, d30, d31, d32, d36, d41, d42, d37, d38, d45, d46, d47, hfz, b1, b2, b3, b4, b5, b6⟩ := HA6.out.cells
            have HMS := Lib.hid hms
            clear hms
            go_upto_region 54 with (fail)
            generalize hwc : (wc : World) = w6 at *
            clear hwc
            refine wp_region_still_tail 12 (by kernel_rfl) (by kernel_rfl) ?_
            simp only [List.take_succ_cons, List.take_zero, List.drop_succ_cons, List.drop_zero]
            rw [show ({ heap := w6.heap, tape := w6.tape, drawn := w6.drawn + 1, os := w6.os, output := w6.output } : World) = w6.drew from rfl]
            repeat still_step
            refine wpStill_nil ?_
            go_wp2_with fail
            rw [Exit.noGoto_ret]
            go_ret
            refine ⟨((HF6.out.setB hB _).drewN 1).setB hB _, .inl ⟨HMS.out, rfl⟩⟩
          · obtain ⟨p, off, lc, tp, x29, x30, x31, x45, x46, x47, d26, d28, d29, d30, d31, d32, d36, d41, d42, d37, d38, d45, d46, d47, hfz, b1, b2, b3, b4, b5, b6⟩ := HA6.out.cells
            go_upto_region 54 with (fail)
            generalize hwc : (wc : World) = w6 at *
            clear hwc
            refine wp_region_still_tail 12 (by kernel_rfl) (by kernel_rfl) ?_
            simp only [List.take_succ_cons, List.take_zero, List.drop_succ_cons, List.drop_zero]
            rw [show ({ heap := w6.heap, tape := w6.tape, drawn := w6.drawn + 1, os := w6.os, output := w6.output } : World) = w6.drew from rfl]
            repeat still_step
            refine wpStill_nil ?_
            go_wp2_with fail
            rw [Exit.noGoto_ret]
            go_ret
            refine ⟨((HF6.out.setB hB _).drewN 1).setB hB _, .inr ⟨hms, ⟨t', ht', rfl⟩, _, ((HA6.out.setTe _).drewN 1).setCh _, ?_⟩⟩
            intro p2 lc2 e1 e2
            have g26 := (World.cell?_setCell_other (w := (w6.setCell ⟨B, 1037, none⟩ (.int .i64 ((p : Int) - lc))).drew) (a := ⟨B, 1038, none⟩) (b := ⟨B, 1026, none⟩) (v := .int .i32 (ru s n)) (by intro h; injection h with _ h; exact absurd h (by decide))).symm.trans e1
            have g32 := (World.cell?_setCell_other (w := (w6.setCell ⟨B, 1037, none⟩ (.int .i64 ((p : Int) - lc))).drew) (a := ⟨B, 1038, none⟩) (b := ⟨B, 1032, none⟩) (v := .int .i32 (ru s n)) (by intro h; injection h with _ h; exact absurd h (by decide))).symm.trans e2
            have k26 := d26.symm.trans ((World.cell?_setCell_other (w := w6) (a := ⟨B, 1037, none⟩) (b := ⟨B, 1026, none⟩) (v := .int .i64 ((p : Int) - lc)) (by intro h; injection h with _ h; exact absurd h (by decide))).symm.trans g26)
            have k32 := d32.symm.trans ((World.cell?_setCell_other (w := w6) (a := ⟨B, 1037, none⟩) (b := ⟨B, 1032, none⟩) (v := .int .i64 ((p : Int) - lc)) (by intro h; injection h with _ h; exact absurd h (by decide))).symm.trans g32)
            injection k26 with k26
            injection k26 with _ k26
            injection k32 with k32
            injection k32 with _ k32
            omega
end Go.Proofs.YtadpeebcombjnaaGreatDoor
