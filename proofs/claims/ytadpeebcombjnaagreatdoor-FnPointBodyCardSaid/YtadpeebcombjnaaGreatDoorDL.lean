/- Multiprecision decimals: the walk through set. -/
import Derived.Test.YtadpeebcombjnaaGreatDoorDK
import Derived.Test.YtadpeebcombjnaaGreatDoorRC
import Derived.Deep.CutBlock
namespace Go.Proofs.YtadpeebcombjnaaGreatDoor
open Go Go.Proofs Go.RowKit Go.Lib
set_option maxRecDepth 100000
def SetPost (g : Nat) (neg : Bool) (t : List UInt8) (w : World) (e : Ending) (w' : World) : Prop := Mod (· = g) w w' ∧
  ((setF t = none ∧ e = .returned (.bool false)) ∨ ∃ s, setF t = some s ∧ e = .returned (.bool true) ∧ Dw w' g s neg)
set_option maxHeartbeats 8000000 in
theorem set_any {g : Nat} (s : ByteArray) (neg : Bool) (t : List UInt8) (w : World) (hs : s.size ≤ 2001) (ht : By s = if neg = true then 45 :: t else t) (hok : RfOk t) (hd : Dc w g 0 0 0 false false) :
    Calls Tryz.prog 117 #[.pointer (some ⟨g, 0, none⟩), .string s] w (SetPost g neg t w) := by
  obtain ⟨C, hrow, hc⟩ := hd
  have c2 := hrow.cell hc.cneg
  have c3 := hrow.cell hc.ctr
  have cf := hrow.frozen
  have HR := Lib.hid ((hrow.set 802 (.bool false)).set 803 (.bool false))
  have HC := Lib.hid ((hc.setNeg false).setTr false)
  have HM := Lib.hid (set1_mod (set1_mod (Mod.refl (· = g) w) 802 (.bool false)) 803 (.bool false))
  clear hrow hc
  by_cases h0 : s.size = 0
  · have hn : By s = [] := List.length_eq_zero_iff.1 (by rw [size_list]; exact h0)
    have HN : Hid (setF t = none) := Lib.hid (by
      cases neg with
      | true => rw [hn, if_pos rfl] at ht; cases ht
      | false => rw [hn, if_neg (by decide)] at ht; rw [← ht]; rfl)
    clear ht hok hn
    go_enter Tryz.func117, Tryz.ntmps117
    go_wp2_with fail
    go_ret
    exact ⟨HM.out, .inl ⟨HN.out, rfl⟩⟩
  · have hd : By s = s[0] :: (By s).drop 1 := by have := drop_list s 0 (by omega); rwa [List.drop_zero] at this
    have h01 : ¬ (s.size : Int) = 0 := by omega
    have hpos : (0 : Int) < (s.size : Int) := by omega
    have h43 : ((s[0].toNat : Int) == 43) = false := f_eq (d := 43) (fun e => by
      cases neg with
      | true => rw [hd, e, if_pos rfl] at ht; cases ht
      | false => rw [hd, e, if_neg (by decide)] at ht; exact (hok.2.2 _).1 ht.symm) rfl
    have h45 : ((s[0].toNat : Int) == 45) = neg := by
      cases neg with
      | true => refine t_eq (d := 45) ?_ rfl; rw [hd, if_pos rfl] at ht; injection ht
      | false => refine f_eq (d := 45) (fun e => ?_) rfl; rw [hd, e, if_neg (by decide)] at ht; exact (hok.2.2 _).2 ht.symm
    obtain ⟨k0, hk0⟩ : ∃ k0 : Nat, k0 = if neg = true then 1 else 0 := ⟨_, rfl⟩
    have hk1 : k0 ≤ 1 := by rw [hk0]; split <;> omega
    have hks : k0 ≤ s.size := by omega
    have HT : Hid ((By s).drop k0 = t) := Lib.hid (by rw [ht, hk0]; cases neg <;> rfl)
    have HOK := Lib.hid hok
    clear hd ht hok
    go_enter Tryz.func117, Tryz.ntmps117
    go_upto_block 0 with (fail)
    go_cut [5] from 20 to 33 (fun i wx => i = .int .i64 k0 ∧ Hid (Mod (· = g) w wx) ∧ ∃ C, Hid (Row wx g C 192) ∧ Hid (DC C 0 0 0 neg false))
    case first =>
      cases neg with
      | true =>
        subst hk0
        go_wp2_with fail
        go_meet
        exact ⟨rfl, Lib.hid (set1_mod HM.out _ _), _, Lib.hid (HR.out.set 802 _), Lib.hid (HC.out.setNeg true)⟩
      | false =>
        subst hk0
        go_wp2_with fail
        go_meet
        exact ⟨rfl, HM, _, HR, HC⟩
    case rest =>
      clear HM HR HC c2 c3 cf C
      obtain ⟨rfl, HM, C, HR, HC⟩ := hcut
      clear h43 h45 hk0
      go_upto_block 1 with (fail)
      have hSB0 : SB ssI k0 := ⟨Nat.zero_le _, by decide, ⟨by show -(k0 : Int) ≤ 0; omega, by show (0 : Int) ≤ k0; omega⟩, by decide, .inl rfl⟩
      have HSB0 := Lib.hid hSB0
      clear hSB0
      go_cut [5, 6, 7] from 34 to 116 (fun vi vdot vdig wx => ∃ (k : Nat) (dot dig : Bool) (P nd : Nat) (dp : Int) (tr : Bool), k ≤ s.size ∧ Hid (k0 ≤ k) ∧ vi = .int .i64 k ∧ vdot = .bool dot ∧ vdig = .bool dig ∧ Hid (sM t ssI = some (⟨dot, dig, P, nd, dp, tr⟩, (By s).drop k)) ∧ Hid (SB ⟨dot, dig, P, nd, dp, tr⟩ k) ∧ Hid (Mod (· = g) w wx) ∧ ∃ C, Hid (Row wx g C 192) ∧ Hid (DC C P nd dp neg tr))
      case first =>
        go_wp2_with fail
        go_loopg [5, 6, 7] (s.size - k0) (fun gh vi vdot vdig wr => ∃ (k : Nat) (dot dig : Bool) (P nd : Nat) (dp : Int) (tr : Bool), k + gh = s.size ∧ Hid (k0 ≤ k) ∧ vi = .int .i64 k ∧ vdot = .bool dot ∧ vdig = .bool dig ∧ Hid (sM t ssI = sM ((By s).drop k) ⟨dot, dig, P, nd, dp, tr⟩) ∧ Hid (SB ⟨dot, dig, P, nd, dp, tr⟩ k) ∧ Hid (Mod (· = g) w wr) ∧ ∃ C, Hid (Row wr g C 192) ∧ Hid (DC C P nd dp neg tr))
        case atStart => exact ⟨k0, false, false, 0, 0, 0, false, by omega, Lib.hid (Nat.le_refl _), rfl, rfl, rfl, Lib.hid (by rw [HT.out]; rfl), HSB0, HM, C, HR, HC⟩
        case round =>
          clear HM HR HC C HSB0
          obtain ⟨k, dot, dig, P, nd, dp, tr, hk, HK, rfl, rfl, rfl, HF, HSB, HM, C, HR, HC⟩ := hrel
          have c0 : wr.cell? ⟨g, 800, none⟩ = some (.int .i64 (nd : Nat)) := HR.out.cell HC.out.cnd
          have c1 : wr.cell? ⟨g, 801, none⟩ = some (.int .i64 dp) := HR.out.cell HC.out.cdp
          have ct : wr.cell? ⟨g, 803, none⟩ = some (.bool tr) := HR.out.cell HC.out.ctr
          have cf := HR.out.frozen
          by_cases hlt : k < s.size
          · have HDK := Lib.hid (drop_list s k hlt)
            have hb1 := HSB.out.nd
            have hb2 := HSB.out.n8
            have hb3 := HSB.out.dp
            dsimp only at hb1 hb2 hb3
            have h95 : s[k] ≠ 95 := HOK.out.1 _ (by
              rw [← HT.out]
              exact mem_drop_of hlt HK.out)
            have h95b : ((s[k].toNat : Int) == 95) = false := f_eq h95 rfl
            have hki : (k : Int) < s.size := by omega
            clear h95
            by_cases h46 : s[k] = 46
            · have h46b : ((s[k].toNat : Int) == 46) = true := t_eq h46 rfl
              cases dot with
              | true =>
                have HE : Hid (setF t = none) := Lib.hid (by
                  unfold setF
                  rw [HF.out, show (By s).drop k = _ from HDK.out, sM, if_pos h46, if_pos rfl]
                  rfl)
                clear h46
                go_wp2_with fail
                go_ret
                exact ⟨HM.out, .inl ⟨HE.out, rfl⟩⟩
              | false =>
                have HE : Hid (sM ((By s).drop k) ⟨false, dig, P, nd, dp, tr⟩ = sM ((By s).drop (k + 1)) ⟨true, dig, P, nd, nd, tr⟩) := Lib.hid (by rw [show (By s).drop k = _ from HDK.out, sM, if_pos h46, if_neg (show ¬ false = true by decide)])
                clear h46
                go_wp2_with fail
                go_roundg (s.size - (k + 1))
                case measure => omega
                case rel => exact ⟨k + 1, true, dig, P, nd, nd, tr, by omega, Lib.hid (Nat.le_succ_of_le HK.out), by go_num, rfl, rfl, Lib.hid (by rw [HF.out, HE.out]), Lib.hid ⟨by dsimp only; omega, hb2, by dsimp only; omega, HSB.out.lt, HSB.out.low⟩, Lib.hid (set1_mod HM.out _ _), _, Lib.hid (HR.out.set 801 _), Lib.hid (HC.out.setDp _)⟩
            · have h46b : ((s[k].toNat : Int) == 46) = false := f_eq h46 rfl
              have h46n := Lib.hid h46
              clear h46
              by_cases hdg : isDig s[k] = true
              · have hdi := (isDig_iff _).1 hdg
                have HSB2 := Lib.hid (HSB.out.step hdg)
                have HE0 : Hid (sM ((By s).drop k) ⟨dot, dig, P, nd, dp, tr⟩ = sM ((By s).drop (k + 1)) (SS.step ⟨dot, dig, P, nd, dp, tr⟩ s[k])) := Lib.hid (by rw [show (By s).drop k = _ from HDK.out, sM, if_neg h46n.out, if_pos hdg])
                obtain ⟨h48, h57⟩ := hdi
                clear hdg
                have h48b : decide ((48 : Int) ≤ (s[k].toNat : Int)) = true := decide_eq_true h48
                have h57b : decide ((s[k].toNat : Int) ≤ 57) = true := decide_eq_true h57
                by_cases hz : s[k] = 48 ∧ nd = 0
                · obtain ⟨hz, rfl⟩ := hz
                  have hzb : ((s[k].toNat : Int) == 48) = true := t_eq hz rfl
                  have c0 : wr.cell? ⟨g, 800, none⟩ = some (.int .i64 0) := c0
                  have est : SS.step ⟨dot, dig, P, 0, dp, tr⟩ s[k] = ⟨dot, true, P, 0, dp - 1, tr⟩ := by unfold SS.step; rw [if_pos ⟨hz, rfl⟩]
                  rw [est] at HSB2 HE0
                  clear est hz
                  go_wp2_with fail
                  go_roundg (s.size - (k + 1))
                  case measure => omega
                  case rel => exact ⟨k + 1, dot, true, P, 0, dp - 1, tr, by omega, Lib.hid (Nat.le_succ_of_le HK.out), by go_num, rfl, rfl, Lib.hid (by rw [HF.out, HE0.out]), HSB2, Lib.hid (set1_mod HM.out _ _), _, Lib.hid (HR.out.set 801 _), Lib.hid (HC.out.setDp _)⟩
                · have hcase : (((s[k].toNat : Int) == 48) = true ∧ ((nd : Int) == 0) = false) ∨ (((s[k].toNat : Int) == 48) = false ∧ True) := by
                    by_cases h : s[k] = 48
                    · exact .inl ⟨t_eq h rfl, by rw [beq_eq_false_iff_ne]; intro e; exact hz ⟨h, by omega⟩⟩
                    · exact .inr ⟨f_eq h rfl, trivial⟩
                  by_cases h8 : nd < 800
                  · have est : SS.step ⟨dot, dig, P, nd, dp, tr⟩ s[k] = ⟨dot, true, P * 10 + (s[k].toNat - 48), nd + 1, dp, tr⟩ := by unfold SS.step; rw [if_neg hz, if_pos h8]
                    rw [est] at HSB2 HE0
                    have h8' : (nd : Int) < 800 := by omega
                    have hn0 : (0 : Int) ≤ (nd : Int) := by omega
                    obtain ⟨y, _, hy⟩ := HC.out.byte nd h8
                    have cy := HR.out.cell hy
                    have hpush := HC.out.push (c := s[k].toNat) ⟨by omega, by omega⟩ h8
                    have HPU := Lib.hid hpush
                    clear est hz hy hpush
                    rcases hcase with ⟨g1, g2⟩ | ⟨g1, _⟩
                    all_goals
                      go_wp2_with fail
                      go_region
                      go_wp2_with fail
                      go_roundg (s.size - (k + 1))
                      case measure => omega
                      case rel =>
                        refine ⟨k + 1, dot, true, P * 10 + (s[k].toNat - 48), nd + 1, dp, tr, by omega, Lib.hid (Nat.le_succ_of_le HK.out), by go_num, rfl, rfl, Lib.hid (by rw [HF.out, HE0.out]), HSB2, ?_, _, ?_, HPU⟩
                        · exact Lib.hid ((set1_mod (set1_mod HM.out _ _) _ _).drew)
                        · exact Lib.hid ((HR.out.set nd _).set 800 _)
                  · have h8' : ¬ (nd : Int) < 800 := by omega
                    by_cases hz48 : s[k] = 48
                    · have hzb : ((s[k].toNat : Int) != 48) = false := by rw [bne_eq_false_iff_eq, hz48]; rfl
                      have est : SS.step ⟨dot, dig, P, nd, dp, tr⟩ s[k] = ⟨dot, true, P, nd, dp, tr⟩ := by unfold SS.step; rw [if_neg hz, if_neg h8, hz48]; simp
                      rw [est] at HSB2 HE0
                      clear est hz hz48
                      rcases hcase with ⟨g1, g2⟩ | ⟨g1, _⟩
                      all_goals
                        go_wp2_with fail
                        go_roundg (s.size - (k + 1))
                        case measure => omega
                        case rel => exact ⟨k + 1, dot, true, P, nd, dp, tr, by omega, Lib.hid (Nat.le_succ_of_le HK.out), by go_num, rfl, rfl, Lib.hid (by rw [HF.out, HE0.out]), HSB2, HM, C, HR, HC⟩
                    · have hzb : ((s[k].toNat : Int) != 48) = true := by rw [bne_iff_ne]; intro e; exact hz48 (UInt8.toNat_inj.1 (by have : (48 : UInt8).toNat = 48 := rfl; omega))
                      have est : SS.step ⟨dot, dig, P, nd, dp, tr⟩ s[k] = ⟨dot, true, P, nd, dp, true⟩ := by unfold SS.step; rw [if_neg hz, if_neg h8]; simp [hz48]
                      rw [est] at HSB2 HE0
                      have g1 : ((s[k].toNat : Int) == 48) = false := f_eq hz48 rfl
                      clear est hz hz48 hcase
                      go_wp2_with fail
                      go_roundg (s.size - (k + 1))
                      case measure => omega
                      case rel => exact ⟨k + 1, dot, true, P, nd, dp, true, by omega, Lib.hid (Nat.le_succ_of_le HK.out), by go_num, rfl, rfl, Lib.hid (by rw [HF.out, HE0.out]), HSB2, Lib.hid (set1_mod HM.out _ _), _, Lib.hid (HR.out.set 803 _), Lib.hid (HC.out.setTr true)⟩
              · have HE : Hid (sM ((By s).drop k) ⟨dot, dig, P, nd, dp, tr⟩ = some (⟨dot, dig, P, nd, dp, tr⟩, (By s).drop k)) := Lib.hid (by rw [show (By s).drop k = _ from HDK.out, sM, if_neg h46n.out, if_neg hdg])
                have hcase : decide ((48 : Int) ≤ (s[k].toNat : Int)) = false ∨ decide ((48 : Int) ≤ (s[k].toNat : Int)) = true ∧ decide ((s[k].toNat : Int) ≤ 57) = false := by
                  have h : ¬ (48 ≤ (s[k].toNat : Int) ∧ (s[k].toNat : Int) ≤ 57) := fun h => hdg ((isDig_iff _).2 h)
                  rcases Int.lt_or_le (s[k].toNat : Int) 48 with h1 | h1
                  · exact .inl (decide_eq_false (by omega))
                  · exact .inr ⟨decide_eq_true h1, decide_eq_false (by omega)⟩
                clear hdg
                rcases hcase with h48 | ⟨h48, h57⟩
                all_goals
                  go_wp2_with fail
                  go_meet
                  exact ⟨k, dot, dig, P, nd, dp, tr, by omega, HK, rfl, rfl, rfl, Lib.hid (by rw [HF.out, HE.out]), HSB, HM, C, HR, HC⟩
          · have HZ : Hid ((By s).drop k = []) := Lib.hid (drop_all s k (by omega))
            have hki : ¬ (k : Int) < s.size := by omega
            go_wp2_with fail
            go_meet
            exact ⟨k, dot, dig, P, nd, dp, tr, by omega, HK, rfl, rfl, rfl, Lib.hid (by rw [HF.out, HZ.out]; rfl), HSB, HM, C, HR, HC⟩
      case rest =>
        clear HM HR HC C HSB0
        obtain ⟨k, dot, dig, P, nd, dp, tr, hk, HK0, rfl, rfl, rfl, HF, HSB, HM, C, HR, HC⟩ := hcut
        have hSF : setF t = if dig = false then none else (exF ((By s).drop k)).bind fun p => if p.2 = [] then some ⟨P, nd, (if dot = true then dp else (nd : Int)) + p.1, tr⟩ else none := by
          unfold setF
          rw [HF.out]
          rfl
        have hb1 := HSB.out.nd
        have hb2 := HSB.out.n8
        have hb3 := HSB.out.dp
        dsimp only at hb1 hb2 hb3
        have HSF := Lib.hid hSF
        have HT2 := HT
        clear HF HSB hSF HT
        have c0 : wc.cell? ⟨g, 800, none⟩ = some (.int .i64 (nd : Nat)) := HR.out.cell HC.out.cnd
        have c1 : wc.cell? ⟨g, 801, none⟩ = some (.int .i64 dp) := HR.out.cell HC.out.cdp
        have cf := HR.out.frozen
        cases dig with
        | false =>
          go_wp2_with fail
          go_ret
          exact ⟨HM.out, .inl ⟨by rw [HSF.out]; simp, rfl⟩⟩
        | true =>
          obtain ⟨dq, hdq⟩ : ∃ dq : Int, dq = if dot = true then dp else (nd : Int) := ⟨_, rfl⟩
          have hdqb : -(s.size : Int) ≤ dq ∧ dq ≤ s.size := by rw [hdq]; split <;> omega
          have HSF2 : Hid (setF t = (exF ((By s).drop k)).bind fun p => if p.2 = [] then some ⟨P, nd, dq + p.1, tr⟩ else none) := Lib.hid (by rw [HSF.out, if_neg (by decide), hdq])
          clear HSF
          go_upto_if 120 with (fail)
          go_cut [] from 119 to 127 (fun wx => Hid (Mod (· = g) w wx) ∧ ∃ C, Hid (Row wx g C 192) ∧ Hid (DC C P nd dq neg tr))
          case first =>
            cases dot with
            | true =>
              have hdq2 : dq = dp := hdq
              clear hdq
              subst hdq2
              go_wp2_with fail
              go_meet
              exact ⟨HM, C, HR, HC⟩
            | false =>
              have hdq2 : dq = (nd : Int) := hdq
              clear hdq
              subst hdq2
              go_wp2_with fail
              go_meet
              exact ⟨Lib.hid (set1_mod HM.out _ _), _, Lib.hid (HR.out.set 801 _), Lib.hid (HC.out.setDp _)⟩
          case rest =>
            clear HM HR HC C c0 c1 cf hdq hb1 hb3
            obtain ⟨HM, C, HR, HC⟩ := hcut
            have cf := HR.out.frozen
            go_upto_region 32 with (fail)
            have HE : Hid (∀ b : Bool, b = decide (∃ h : k < s.size, s[k] = 101 ∨ s[k] = 69) → b = false → exF ((By s).drop k) = some (0, (By s).drop k)) := Lib.hid (by
              intro b hb hf
              rw [hf] at hb
              have hno := decide_eq_false_iff_not.1 hb.symm
              by_cases hlt : k < s.size
              · rw [show (By s).drop k = _ from drop_list s k hlt, exF_no (fun h => hno ⟨hlt, h⟩)]
              · rw [show (By s).drop k = [] from drop_all s k (by omega)]; rfl)
            obtain ⟨be, hbe⟩ : ∃ b : Bool, b = decide (∃ h : k < s.size, s[k] = 101 ∨ s[k] = 69) := ⟨_, rfl⟩
            go_cut [138] from 128 to 138 (fun b wx => wx = wc ∧ b = .bool be)
            case first =>
              by_cases hlt : k < s.size
              · have hi0 : (0 : Int) ≤ k := by omega
                have hi1 : (k : Int) < s.size := by omega
                have hl := lowr_any s[k] wc
                have hle := low_e s[k]
                have hbe2 : be = decide (s[k] = 101 ∨ s[k] = 69) := by rw [hbe, decide_eq_decide]; exact ⟨fun ⟨_, h⟩ => h, fun h => ⟨hlt, h⟩⟩
                rw [← hbe2] at hle
                clear hbe hbe2
                cases be with
                | true =>
                  go_wp2_with (go_at_call 127; refine hl.mono ?_; rintro _ wq ⟨rfl, hwq⟩; rw [hwq]; clear hwq)
                  go_meet
                  exact ⟨rfl, rfl⟩
                | false =>
                  go_wp2_with (go_at_call 127; refine hl.mono ?_; rintro _ wq ⟨rfl, hwq⟩; rw [hwq]; clear hwq)
                  go_meet
                  exact ⟨rfl, rfl⟩
              · have hi3 : ¬ (k : Int) < s.size := by omega
                have hb2 : be = false := by rw [hbe, decide_eq_false_iff_not]; rintro ⟨h, _⟩; exact hlt h
                subst hb2
                clear hbe hlt
                go_wp2_with fail
                go_meet
                exact ⟨rfl, rfl⟩
            case rest =>
              obtain ⟨rfl, rfl⟩ := hcut
              have HBE := Lib.hid hbe
              clear hbe
              have c1 := HR.out.cell HC.out.cdp
              go_upto_if 138 with (fail)
              go_cut [5] from 139 to 219 (fun vi wx => ∃ (k' : Nat) (x : Int), k' ≤ s.size ∧ vi = .int .i64 k' ∧ -99999 ≤ x ∧ x ≤ 99999 ∧ Hid (exF ((By s).drop k) = some (x, (By s).drop k')) ∧ Hid (Mod (· = g) w wx) ∧ ∃ C, Hid (Row wx g C 192) ∧ Hid (DC C P nd (dq + x) neg tr))
              case first =>
                cases be with
                | false =>
                  go_wp2_with fail
                  go_meet
                  exact ⟨k, 0, hk, rfl, by decide, by decide, Lib.hid (HE.out _ HBE.out rfl), HM, C, HR, by rw [Int.add_zero]; exact HC⟩
                | true =>
                  obtain ⟨hlt, hce⟩ := of_decide_eq_true HBE.out.symm
                  have HCE := Lib.hid hce
                  have HDK := Lib.hid (drop_list s k hlt)
                  clear hce HBE HE
                  have hi1 : (k : Int) < s.size := by omega
                  by_cases hlt2 : k + 1 < s.size
                  · have hlt2' : (k : Int) + 1 < s.size := by omega
                    have HDK1 := Lib.hid (drop_list s (k + 1) hlt2)
                    go_upto_block 4 with (fail)
                    go_cut [5, 8] from 148 to 155 (fun i v wx => wx = wc ∧ ∃ (k2 : Nat) (sg : Int), k2 ≤ s.size ∧ Hid (k0 ≤ k2) ∧ i = .int .i64 k2 ∧ v = .int .i64 sg ∧ (sg = 1 ∨ sg = -1) ∧ Hid (esF ((By s).drop (k + 1)) = (sg, (By s).drop k2)))
                    case first =>
                      by_cases hp : s[k + 1] = 43
                      · have hpb : ((s[k + 1].toNat : Int) == 43) = true := t_eq hp rfl
                        have HES : Hid (esF ((By s).drop (k + 1)) = (1, (By s).drop (k + 1 + 1))) := Lib.hid (by rw [show (By s).drop (k + 1) = _ from HDK1.out, esF, if_pos hp])
                        clear hp
                        go_wp2_with fail
                        go_meet
                        exact ⟨rfl, k + 1 + 1, 1, by omega, Lib.hid (by have := HK0.out; omega), by go_num, rfl, .inl rfl, HES⟩
                      · have hpb : ((s[k + 1].toNat : Int) == 43) = false := f_eq hp rfl
                        by_cases hq : s[k + 1] = 45
                        · have hqb : ((s[k + 1].toNat : Int) == 45) = true := t_eq hq rfl
                          have HES : Hid (esF ((By s).drop (k + 1)) = (-1, (By s).drop (k + 1 + 1))) := Lib.hid (by rw [show (By s).drop (k + 1) = _ from HDK1.out, esF, if_neg hp, if_pos hq])
                          clear hp hq
                          go_wp2_with fail
                          go_meet
                          exact ⟨rfl, k + 1 + 1, -1, by omega, Lib.hid (by have := HK0.out; omega), by go_num, rfl, .inr rfl, HES⟩
                        · have hqb : ((s[k + 1].toNat : Int) == 45) = false := f_eq hq rfl
                          have HES : Hid (esF ((By s).drop (k + 1)) = (1, (By s).drop (k + 1))) := Lib.hid (by rw [show (By s).drop (k + 1) = _ from HDK1.out, esF, if_neg hp, if_neg hq])
                          clear hp hq
                          go_wp2_with fail
                          go_meet
                          exact ⟨rfl, k + 1, 1, by omega, Lib.hid (by have := HK0.out; omega), by go_num, rfl, .inl rfl, HES⟩
                    case rest =>
                      obtain ⟨rfl, k2, sg, hk2, HK02, rfl, rfl, hsg, HES⟩ := hcut
                      have HEX : Hid (exF ((By s).drop k) = edF ((By s).drop k2) sg) := Lib.hid (by rw [show (By s).drop k = _ from HDK.out]; exact exF_e HCE.out (by rw [HDK1.out]; simp) HES.out)
                      clear HCE HDK HDK1 HES
                      by_cases hlt3 : k2 < s.size
                      · have HD2 := Lib.hid (drop_list s k2 hlt3)
                        have hlt3' : (k2 : Int) < s.size := by omega
                        by_cases hdg : isDig s[k2] = true
                        · have HE2 : Hid (exF ((By s).drop k) = some (((eF ((By s).drop k2) 0).1 : Int) * sg, (eF ((By s).drop k2) 0).2)) := Lib.hid (by rw [HEX.out, show (By s).drop k2 = _ from HD2.out, edF, if_pos hdg])
                          obtain ⟨h48, h57⟩ := (isDig_iff _).1 hdg
                          clear hdg HEX
                          go_wp2_with fail
                          go_loopg [5, 9] (s.size - k2) (fun gh i ve wr => wr = wc ∧ ∃ (j e : Nat), j + gh = s.size ∧ i = .int .i64 j ∧ ve = .int .i64 e ∧ e ≤ 99999 ∧ Hid (k0 ≤ j) ∧ Hid (eF ((By s).drop k2) 0 = eF ((By s).drop j) e))
                          case atStart => exact ⟨rfl, k2, 0, by omega, rfl, rfl, by omega, Lib.hid HK02.out, Lib.hid rfl⟩
                          case round =>
                            obtain ⟨rfl, j, e, hj, rfl, rfl, he, HKJ, HEJ⟩ := hrel
                            by_cases hlj : j < s.size
                            · have HDJ := Lib.hid (drop_list s j hlj)
                              have hlj' : (j : Int) < s.size := by omega
                              have h95 : s[j] ≠ 95 := HOK.out.1 _ (by
                                rw [← HT2.out]
                                exact mem_drop_of hlj HKJ.out)
                              have h95b : ((s[j].toNat : Int) == 95) = false := f_eq h95 rfl
                              clear h95
                              by_cases hdj : isDig s[j] = true
                              · obtain ⟨g48, g57⟩ := (isDig_iff _).1 hdj
                                have HDJ2 := Lib.hid hdj
                                clear hdj
                                by_cases he4 : e < 10000
                                · have HST : Hid (eF ((By s).drop j) e = eF ((By s).drop (j + 1)) (e * 10 + (s[j].toNat - 48))) := Lib.hid (by rw [show (By s).drop j = _ from HDJ.out, eF, if_pos HDJ2.out, if_pos he4])
                                  have hw3 : IntKind.i64.wrap (s[j].toNat : Int) = (s[j].toNat : Int) := IntWalk.i64_in _ (by omega)
                                  go_wp2_with fail
                                  go_roundg (s.size - (j + 1))
                                  case measure => omega
                                  case rel => exact ⟨rfl, j + 1, e * 10 + (s[j].toNat - 48), by omega, by go_num, congrArg (Value.int .i64) (by omega), by omega, Lib.hid (Nat.le_succ_of_le HKJ.out), Lib.hid (by rw [HEJ.out, HST.out])⟩
                                · have HST : Hid (eF ((By s).drop j) e = eF ((By s).drop (j + 1)) e) := Lib.hid (by rw [show (By s).drop j = _ from HDJ.out, eF, if_pos HDJ2.out, if_neg he4])
                                  go_wp2_with fail
                                  go_roundg (s.size - (j + 1))
                                  case measure => omega
                                  case rel => exact ⟨rfl, j + 1, e, by omega, by go_num, rfl, he, Lib.hid (Nat.le_succ_of_le HKJ.out), Lib.hid (by rw [HEJ.out, HST.out])⟩
                              · have HST : Hid (eF ((By s).drop j) e = (e, (By s).drop j)) := Lib.hid (by rw [show (By s).drop j = _ from HDJ.out, eF, if_neg hdj])
                                have hcase : ¬ (48 : Int) ≤ (s[j].toNat : Int) ∨ (48 : Int) ≤ (s[j].toNat : Int) ∧ ¬ (s[j].toNat : Int) ≤ 57 := by
                                  have h : ¬ (48 ≤ (s[j].toNat : Int) ∧ (s[j].toNat : Int) ≤ 57) := fun h => hdj ((isDig_iff _).2 h)
                                  omega
                                clear hdj
                                rcases hcase with g48 | ⟨g48, g57⟩
                                all_goals
                                  rcases hsg with rfl | rfl
                                  · go_wp2_with fail
                                    go_meet
                                    exact ⟨j, (e : Int), by omega, rfl, by omega, by omega, Lib.hid (by rw [HE2.out, HEJ.out, HST.out, Int.mul_one]), Lib.hid (set1_mod HM.out _ _), _, Lib.hid (HR.out.set 801 _), Lib.hid (HC.out.setDp _)⟩
                                  · go_wp2_with fail
                                    go_meet
                                    exact ⟨j, -(e : Int), by omega, rfl, by omega, by omega, Lib.hid (by rw [HE2.out, HEJ.out, HST.out, Int.mul_neg_one]), Lib.hid (set1_mod HM.out _ _), _, Lib.hid (HR.out.set 801 _), Lib.hid (HC.out.setDp _)⟩
                            · have HST : Hid (eF ((By s).drop j) e = (e, (By s).drop j)) := Lib.hid (by rw [show (By s).drop j = [] from drop_all s j (by omega)]; rfl)
                              have hlj' : ¬ (j : Int) < s.size := by omega
                              rcases hsg with rfl | rfl
                              · go_wp2_with fail
                                go_meet
                                exact ⟨j, (e : Int), by omega, rfl, by omega, by omega, Lib.hid (by rw [HE2.out, HEJ.out, HST.out, Int.mul_one]), Lib.hid (set1_mod HM.out _ _), _, Lib.hid (HR.out.set 801 _), Lib.hid (HC.out.setDp _)⟩
                              · go_wp2_with fail
                                go_meet
                                exact ⟨j, -(e : Int), by omega, rfl, by omega, by omega, Lib.hid (by rw [HE2.out, HEJ.out, HST.out, Int.mul_neg_one]), Lib.hid (set1_mod HM.out _ _), _, Lib.hid (HR.out.set 801 _), Lib.hid (HC.out.setDp _)⟩
                        · have HE2 : Hid (setF t = none) := Lib.hid (by rw [HSF2.out, HEX.out, show (By s).drop k2 = _ from HD2.out, edF, if_neg hdg]; rfl)
                          have hcase : (s[k2].toNat : Int) < 48 ∨ ¬ (s[k2].toNat : Int) < 48 ∧ (57 : Int) < (s[k2].toNat : Int) := by
                            have h : ¬ (48 ≤ (s[k2].toNat : Int) ∧ (s[k2].toNat : Int) ≤ 57) := fun h => hdg ((isDig_iff _).2 h)
                            omega
                          clear hdg HEX
                          rcases hcase with h48 | ⟨h48, h57⟩
                          all_goals
                            go_wp2_with fail
                            go_ret
                            exact ⟨HM.out, .inl ⟨HE2.out, rfl⟩⟩
                      · have HE2 : Hid (setF t = none) := Lib.hid (by rw [HSF2.out, HEX.out, show (By s).drop k2 = [] from drop_all s k2 (by omega)]; rfl)
                        have hlt3' : ¬ (k2 : Int) < s.size := by omega
                        clear HEX
                        go_wp2_with fail
                        go_ret
                        exact ⟨HM.out, .inl ⟨HE2.out, rfl⟩⟩
                  · have HE2 : Hid (setF t = none) := Lib.hid (by rw [HSF2.out, show (By s).drop k = _ from HDK.out, show (By s).drop (k + 1) = [] from drop_all s (k + 1) (by omega), exF_nil HCE.out]; rfl)
                    have hlt2' : ¬ (k : Int) + 1 < s.size := by omega
                    go_wp2_with fail
                    go_ret
                    exact ⟨HM.out, .inl ⟨HE2.out, rfl⟩⟩
              case rest =>
                clear HM HR HC C c1 cf
                obtain ⟨k', x, hk', rfl, hx1, hx2, HX, HM, C, HR, HC⟩ := hcut
                by_cases hend : k' = s.size
                · have hb : ((k' : Int) != (s.size : Int)) = false := by rw [bne_eq_false_iff_eq]; omega
                  have HFIN : Hid (setF t = some ⟨P, nd, dq + x, tr⟩) := Lib.hid (by rw [HSF2.out, HX.out, Option.bind_some, if_pos]; exact List.drop_eq_nil_of_le (by rw [size_list]; omega))
                  clear hend
                  go_wp2_with fail
                  go_ret
                  exact ⟨HM.out, .inr ⟨_, HFIN.out, rfl, C, HR.out, HC.out⟩⟩
                · have hb : ((k' : Int) != (s.size : Int)) = true := by rw [bne_iff_ne]; omega
                  have HFIN : Hid (setF t = none) := Lib.hid (by
                    rw [HSF2.out, HX.out, Option.bind_some, if_neg]
                    intro h
                    have := congrArg List.length h
                    rw [List.length_drop, size_list] at this
                    simp at this
                    omega)
                  clear hend
                  go_wp2_with fail
                  go_ret
                  exact ⟨HM.out, .inl ⟨HFIN.out, rfl⟩⟩
end Go.Proofs.YtadpeebcombjnaaGreatDoor
