/- The walk through internal/strconv's readFloat. -/
import Derived.Test.YtadpeebcombjnaaGreatDoorRARB
import Derived.Deep.CutBlock
namespace Go.Proofs.YtadpeebcombjnaaGreatDoor
open Go Go.Proofs Go.RowKit Go.Lib
set_option maxRecDepth 100000
theorem mem_drop_of {s : ByteArray} {k k0 : Nat} (h : k < s.size) (hk : k0 ≤ k) : s[k] ∈ (By s).drop k0 := by
  obtain ⟨d, rfl⟩ := Nat.exists_eq_add_of_le hk
  rw [show (By s).drop k0 = (By s).drop k0 from rfl, List.mem_iff_getElem]
  refine ⟨d, by rw [List.length_drop, size_list]; omega, ?_⟩
  rw [List.getElem_drop]
  rfl
theorem exF_no {c : UInt8} {l : List UInt8} (h : ¬ (c = 101 ∨ c = 69)) : exF (c :: l) = some (0, c :: l) := if_neg h
theorem exF_nil {c : UInt8} (h : c = 101 ∨ c = 69) : exF [c] = none := if_pos h
theorem exF_e {c : UInt8} {l : List UInt8} (h : c = 101 ∨ c = 69) (hl : l ≠ []) {sg : Int} {r : List UInt8} (hr : esF l = (sg, r)) : exF (c :: l) = edF r sg := by
  refine (if_pos h).trans ((if_neg hl).trans ?_)
  rw [hr]
def RFPost (len : Nat) (neg : Bool) (t : List UInt8) (w : World) (e : Ending) (w' : World) : Prop := w' = w ∧
  ((rfF t = none ∧ ∃ a b c d f, ∃ g : Int, e = .returned (.tuple #[a, b, c, d, f, .int .i64 g, .bool false])) ∨
    ∃ m x tr r, rfF t = some (m, x, tr, r) ∧ e = .returned (.tuple #[.int .u64 (m : Nat), .int .i64 x, .bool neg, .bool tr, .bool false, .int .i64 (len - r.length : Nat), .bool true]))
set_option maxHeartbeats 8000000 in
theorem readFloat_any (s : ByteArray) (neg : Bool) (t : List UInt8) (w : World) (hs : s.size ≤ 2001) (ht : By s = if neg = true then 45 :: t else t) (hok : RfOk t) : Calls Tryz.prog 111 #[.string s] w (RFPost s.size neg t w) := by
  by_cases h0 : s.size = 0
  · have hn : By s = [] := List.length_eq_zero_iff.1 (by rw [size_list]; exact h0)
    have HN : Hid (rfF t = none) := Lib.hid (by
      cases neg with
      | true => rw [hn, if_pos rfl] at ht; cases ht
      | false => rw [hn, if_neg (by decide)] at ht; rw [← ht]; rfl)
    clear ht hok hn
    go_enter Tryz.func111, Tryz.ntmps111
    go_wp2_with fail
    go_step3
    go_wp2_with fail
    rw [Exit.noGoto_ret]
    refine bodyPost_ret (results_t7 rfl _ _ _) rfl ?_
    exact ⟨rfl, .inl ⟨HN.out, _, _, _, _, _, 0, rfl⟩⟩
  · have hd : By s = s[0] :: (By s).drop 1 := by have := drop_list s 0 (by omega); rwa [List.drop_zero] at this
    have h01 : ¬ (s.size : Int) = 0 := by omega
    have hpos : (0 : Int) < (s.size : Int) := by omega
    have h43 : ((s[0].toNat : Int) == 43) = false := f_eq (d := 43) (fun e => by
      cases neg with
      | true => rw [hd, e, if_pos rfl] at ht; cases ht
      | false => rw [hd, e, if_neg (by decide)] at ht; exact (hok.2.2 _).1 ht.symm) rfl
    have h45 : ((s[0].toNat : Int) == 45) = neg := by
      cases neg with
      | true => refine t_eq (d := 45) ?_ rfl; rw [hd, if_pos rfl] at ht; injection ht
      | false => refine f_eq (d := 45) (fun e => ?_) rfl; rw [hd, e, if_neg (by decide)] at ht; exact (hok.2.2 _).2 ht.symm
    obtain ⟨k0, hk0⟩ : ∃ k0 : Nat, k0 = if neg = true then 1 else 0 := ⟨_, rfl⟩
    have hk1 : k0 ≤ 1 := by rw [hk0]; split <;> omega
    have hks : k0 ≤ s.size := by omega
    have HT : Hid ((By s).drop k0 = t) := Lib.hid (by rw [ht, hk0]; cases neg <;> rfl)
    have HOK := Lib.hid hok
    clear hd ht hok
    go_enter Tryz.func111, Tryz.ntmps111
    go_wp2_with fail
    go_step3
    go_upto_block 0 with (fail)
    go_cut [4, 7] from 28 to 35 (fun ng i wx => w = wx ∧ ng = .bool neg ∧ i = .int .i64 k0)
    case first =>
      cases neg with
      | true =>
        subst hk0
        go_wp2_with fail
        go_meet
        exact ⟨rfl, rfl, rfl⟩
      | false =>
        subst hk0
        go_wp2_with fail
        go_meet
        exact ⟨rfl, rfl, rfl⟩
    case rest =>
      obtain ⟨rfl, rfl, rfl⟩ := hcut
      clear h43 h45 hk0
      go_upto_region 12 with (fail)
      go_cut [54] from 36 to 54 (fun b wx => w = wx ∧ b = .bool false)
      case first =>
        by_cases h2 : k0 + 2 < s.size
        · have hc0 : ∀ (h : k0 < s.size), s[k0] = 48 → ∀ h1 : k0 + 1 < s.size, ¬ (s[k0 + 1] = 120 ∨ s[k0 + 1] = 88) := fun h hz h1 => by
            refine HOK.out.2.1 s[k0 + 1] ((By s).drop (k0 + 2)) ?_
            rw [← HT.out, drop_list s k0 (by omega), hz, drop_list s (k0 + 1) (by omega)]
          have HC0 := Lib.hid hc0
          clear hc0
          have hi0 : (0 : Int) ≤ k0 := by omega
          have hi1 : (k0 : Int) < s.size := by omega
          have hi2 : (k0 : Int) + 1 < s.size := by omega
          have hi3 : (k0 : Int) + 2 < s.size := by omega
          by_cases hz : s[k0] = 48
          · have hzb : ((s[k0].toNat : Int) == 48) = true := t_eq hz rfl
            have hx : (bits BinOp.or IntKind.u8 (s[k0 + 1].toNat : Int) 32 == 120) = false := by
              rw [low_x, decide_eq_false_iff_not]
              exact HC0.out (by omega) hz (by omega)
            have hl := lowr_any s[k0 + 1] w
            clear hz
            go_wp2_with (go_at_call 127; refine hl.mono ?_; rintro _ wq ⟨rfl, hwq⟩; rw [hwq]; clear hwq)
            go_meet
            exact ⟨rfl, rfl⟩
          · have hzb : ((s[k0].toNat : Int) == 48) = false := f_eq hz rfl
            clear hz
            go_wp2_with fail
            go_meet
            exact ⟨rfl, rfl⟩
        · have hi3 : ¬ (k0 : Int) + 2 < s.size := by omega
          clear h2
          go_wp2_with fail
          go_meet
          exact ⟨rfl, rfl⟩
      case rest =>
        obtain ⟨rfl, rfl⟩ := hcut
        go_wp2_with fail
        go_step3
        go_upto_block 1 with (fail)
        have hMB0 : MB msI k0 := ⟨Nat.zero_le _, by decide, ⟨by show -(k0 : Int) ≤ 0; omega, by show (0 : Int) ≤ k0; omega⟩, by decide⟩
        have HMB0 := Lib.hid hMB0
        clear hMB0
        go_cut [2, 5, 7, 9, 13, 14, 15, 16, 17] from 18 to 138 (fun vm vtr vi vu vdot vdig vnd vnm vdp wx => w = wx ∧ vu = .bool false ∧ ∃ (k : Nat) (dot dig : Bool) (nd nm : Nat) (dp : Int) (m : Nat) (tr : Bool), k ≤ s.size ∧ Hid (k0 ≤ k) ∧ vm = .int .u64 m ∧ vtr = .bool tr ∧ vi = .int .i64 k ∧ vdot = .bool dot ∧ vdig = .bool dig ∧ vnd = .int .i64 nd ∧ vnm = .int .i64 nm ∧ vdp = .int .i64 dp ∧ Hid (mF t msI = (⟨dot, dig, nd, nm, dp, m, tr⟩, (By s).drop k)) ∧ Hid (MB ⟨dot, dig, nd, nm, dp, m, tr⟩ k))
        case first =>
          go_wp2_with fail
          go_loopg [2, 5, 7, 9, 13, 14, 15, 16, 17, 18] (s.size - k0) (fun gh vm vtr vi vu vdot vdig vnd vnm vdp vc wr => wr = w ∧ vu = .bool false ∧ ∃ (k : Nat) (dot dig : Bool) (nd nm : Nat) (dp : Int) (m : Nat) (tr : Bool), k + gh = s.size ∧ Hid (k0 ≤ k) ∧ vm = .int .u64 m ∧ vtr = .bool tr ∧ vi = .int .i64 k ∧ vdot = .bool dot ∧ vdig = .bool dig ∧ vnd = .int .i64 nd ∧ vnm = .int .i64 nm ∧ vdp = .int .i64 dp ∧ Hid (mF t msI = mF ((By s).drop k) ⟨dot, dig, nd, nm, dp, m, tr⟩) ∧ Hid (MB ⟨dot, dig, nd, nm, dp, m, tr⟩ k))
          case atStart => exact ⟨rfl, rfl, k0, false, false, 0, 0, 0, 0, false, by omega, Lib.hid (Nat.le_refl _), rfl, rfl, rfl, rfl, rfl, rfl, rfl, rfl, Lib.hid (by rw [HT.out]; rfl), HMB0⟩
          case round =>
            obtain ⟨rfl, rfl, k, dot, dig, nd, nm, dp, m, tr, hk, HK, rfl, rfl, rfl, rfl, rfl, rfl, rfl, rfl, HF, HMB⟩ := hrel
            by_cases hlt : k < s.size
            · have HC := Lib.hid (drop_list s k hlt)
              have hm19 := HMB.out.m19
              have hb1 := HMB.out.nd
              have hb2 := HMB.out.nm
              have hb3 := HMB.out.dp
              have hb4 := HMB.out.m
              dsimp only at hm19 hb1 hb2 hb3 hb4
              have h95 : s[k] ≠ 95 := HOK.out.1 _ (by
                rw [← HT.out]
                exact mem_drop_of hlt HK.out)
              have h95b : ((s[k].toNat : Int) == 95) = false := f_eq h95 rfl
              clear h95
              by_cases h46 : s[k] = 46
              · have h46b : ((s[k].toNat : Int) == 46) = true := t_eq h46 rfl
                cases dot with
                | true =>
                  have HE : Hid (mF ((By s).drop k) ⟨true, dig, nd, nm, dp, m, tr⟩ = (⟨true, dig, nd, nm, dp, m, tr⟩, (By s).drop k)) := Lib.hid (by rw [show (By s).drop k = _ from HC.out, mF, if_pos h46, if_pos rfl])
                  clear h46 hb4
                  go_wp2_with fail
                  go_meet
                  exact ⟨rfl, rfl, k, true, dig, nd, nm, dp, m, tr, by omega, HK, rfl, rfl, rfl, rfl, rfl, rfl, rfl, rfl, Lib.hid (by rw [HF.out, HE.out]), HMB⟩
                | false =>
                  have HE : Hid (mF ((By s).drop k) ⟨false, dig, nd, nm, dp, m, tr⟩ = mF ((By s).drop (k + 1)) ⟨true, dig, nd, nm, nd, m, tr⟩) := Lib.hid (by rw [show (By s).drop k = _ from HC.out, mF, if_pos h46, if_neg (show ¬ false = true by decide)])
                  clear h46 hb4
                  go_wp2_with fail
                  go_roundg (s.size - (k + 1))
                  case measure => omega
                  case rel => exact ⟨rfl, rfl, k + 1, true, dig, nd, nm, nd, m, tr, by omega, Lib.hid (Nat.le_succ_of_le HK.out), rfl, rfl, by go_num, rfl, rfl, rfl, rfl, rfl, Lib.hid (by rw [HF.out, HE.out]), Lib.hid ⟨by dsimp only; omega, HMB.out.nm, by dsimp only; omega, HMB.out.m⟩⟩
              · have h46b : ((s[k].toNat : Int) == 46) = false := f_eq h46 rfl
                have h46n := Lib.hid h46
                clear h46
                by_cases hdg : isDig s[k] = true
                · have hdi := (isDig_iff _).1 hdg
                  have HMB2' := Lib.hid (HMB.out.step hdg)
                  have HE0 : Hid (mF ((By s).drop k) ⟨dot, dig, nd, nm, dp, m, tr⟩ = mF ((By s).drop (k + 1)) (MS.step ⟨dot, dig, nd, nm, dp, m, tr⟩ s[k])) := Lib.hid (by rw [show (By s).drop k = _ from HC.out, mF, if_neg h46n.out, if_pos hdg])
                  obtain ⟨h48, h57⟩ := hdi
                  clear hdg
                  by_cases hz : s[k] = 48
                  · have hzb : ((s[k].toNat : Int) == 48) = true := t_eq hz rfl
                    by_cases hn0 : nd = 0
                    · subst hn0
                      have est : MS.step ⟨dot, dig, 0, nm, dp, m, tr⟩ s[k] = ⟨dot, true, 0, nm, dp - 1, m, tr⟩ := by unfold MS.step; rw [if_pos ⟨hz, rfl⟩]
                      rw [est] at HMB2' HE0
                      clear est hz hb4
                      go_wp2_with fail
                      go_roundg (s.size - (k + 1))
                      case measure => omega
                      case rel => exact ⟨rfl, rfl, k + 1, dot, true, 0, nm, dp - 1, m, tr, by omega, Lib.hid (Nat.le_succ_of_le HK.out), rfl, rfl, by go_num, rfl, rfl, rfl, rfl, by go_num, Lib.hid (by rw [HF.out, HE0.out]), HMB2'⟩
                    · have hnb : ((nd : Int) == 0) = false := by rw [beq_eq_false_iff_ne]; omega
                      by_cases h19 : nm < 19
                      · have est : MS.step ⟨dot, dig, nd, nm, dp, m, tr⟩ s[k] = ⟨dot, true, nd + 1, nm + 1, dp, m * 10 + (s[k].toNat - 48), tr⟩ := by unfold MS.step; rw [if_neg (fun h => hn0 h.2), if_pos h19]
                        rw [est] at HMB2' HE0
                        have hm18 : m < 10 ^ 18 := Nat.lt_of_lt_of_le hb4 (pow10_le (by omega))
                        have w1 : IntKind.u64.wrap ((m : Int) * 10) = (m : Int) * 10 := IntWalk.u64_in _ (by omega)
                        have w2 : IntKind.u8.wrap ((s[k].toNat : Int) - 48) = (s[k].toNat : Int) - 48 := IntWalk.u8_in _ (by omega)
                        have w3 : IntKind.u64.wrap ((s[k].toNat : Int) - 48) = (s[k].toNat : Int) - 48 := IntWalk.u64_in _ (by omega)
                        have w4 : IntKind.u64.wrap ((m : Int) * 10 + ((s[k].toNat : Int) - 48)) = (m : Int) * 10 + ((s[k].toNat : Int) - 48) := IntWalk.u64_in _ (by omega)
                        clear est hz hb4 hn0
                        go_wp2_with fail
                        go_roundg (s.size - (k + 1))
                        case measure => omega
                        case rel => exact ⟨rfl, rfl, k + 1, dot, true, nd + 1, nm + 1, dp, m * 10 + (s[k].toNat - 48), tr, by omega, Lib.hid (Nat.le_succ_of_le HK.out), congrArg (Value.int .u64) (by omega), rfl, by go_num, rfl, rfl, by go_num, by go_num, rfl, Lib.hid (by rw [HF.out, HE0.out]), HMB2'⟩
                      · have est : MS.step ⟨dot, dig, nd, nm, dp, m, tr⟩ s[k] = ⟨dot, true, nd + 1, nm, dp, m, tr⟩ := by unfold MS.step; rw [if_neg (fun h => hn0 h.2), if_neg h19, hz]; simp
                        rw [est] at HMB2' HE0
                        clear est hz hb4 hn0
                        go_wp2_with fail
                        go_roundg (s.size - (k + 1))
                        case measure => omega
                        case rel => exact ⟨rfl, rfl, k + 1, dot, true, nd + 1, nm, dp, m, tr, by omega, Lib.hid (Nat.le_succ_of_le HK.out), rfl, rfl, by go_num, rfl, rfl, by go_num, rfl, rfl, Lib.hid (by rw [HF.out, HE0.out]), HMB2'⟩
                  · have hzb : ((s[k].toNat : Int) == 48) = false := f_eq hz rfl
                    by_cases h19 : nm < 19
                    · have est : MS.step ⟨dot, dig, nd, nm, dp, m, tr⟩ s[k] = ⟨dot, true, nd + 1, nm + 1, dp, m * 10 + (s[k].toNat - 48), tr⟩ := by unfold MS.step; rw [if_neg (fun h => hz h.1), if_pos h19]
                      rw [est] at HMB2' HE0
                      have hm18 : m < 10 ^ 18 := Nat.lt_of_lt_of_le hb4 (pow10_le (by omega))
                      have w1 : IntKind.u64.wrap ((m : Int) * 10) = (m : Int) * 10 := IntWalk.u64_in _ (by omega)
                      have w2 : IntKind.u8.wrap ((s[k].toNat : Int) - 48) = (s[k].toNat : Int) - 48 := IntWalk.u8_in _ (by omega)
                      have w3 : IntKind.u64.wrap ((s[k].toNat : Int) - 48) = (s[k].toNat : Int) - 48 := IntWalk.u64_in _ (by omega)
                      have w4 : IntKind.u64.wrap ((m : Int) * 10 + ((s[k].toNat : Int) - 48)) = (m : Int) * 10 + ((s[k].toNat : Int) - 48) := IntWalk.u64_in _ (by omega)
                      clear est hz hb4
                      go_wp2_with fail
                      go_roundg (s.size - (k + 1))
                      case measure => omega
                      case rel => exact ⟨rfl, rfl, k + 1, dot, true, nd + 1, nm + 1, dp, m * 10 + (s[k].toNat - 48), tr, by omega, Lib.hid (Nat.le_succ_of_le HK.out), congrArg (Value.int .u64) (by omega), rfl, by go_num, rfl, rfl, by go_num, by go_num, rfl, Lib.hid (by rw [HF.out, HE0.out]), HMB2'⟩
                    · have est : MS.step ⟨dot, dig, nd, nm, dp, m, tr⟩ s[k] = ⟨dot, true, nd + 1, nm, dp, m, true⟩ := by unfold MS.step; rw [if_neg (fun h => hz h.1), if_neg h19]; simp [hz]
                      rw [est] at HMB2' HE0
                      clear est hz hb4
                      go_wp2_with fail
                      go_roundg (s.size - (k + 1))
                      case measure => omega
                      case rel => exact ⟨rfl, rfl, k + 1, dot, true, nd + 1, nm, dp, m, true, by omega, Lib.hid (Nat.le_succ_of_le HK.out), rfl, rfl, by go_num, rfl, rfl, by go_num, rfl, rfl, Lib.hid (by rw [HF.out, HE0.out]), HMB2'⟩
                · have HE : Hid (mF ((By s).drop k) ⟨dot, dig, nd, nm, dp, m, tr⟩ = (⟨dot, dig, nd, nm, dp, m, tr⟩, (By s).drop k)) := Lib.hid (by rw [show (By s).drop k = _ from HC.out, mF, if_neg h46n.out, if_neg hdg])
                  have hcase : ¬ (48 : Int) ≤ (s[k].toNat : Int) ∨ (48 : Int) ≤ (s[k].toNat : Int) ∧ ¬ (s[k].toNat : Int) ≤ 57 := by
                    have h : ¬ (48 ≤ (s[k].toNat : Int) ∧ (s[k].toNat : Int) ≤ 57) := fun h => hdg ((isDig_iff _).2 h)
                    omega
                  clear hdg hb4
                  rcases hcase with h48 | ⟨h48, h57⟩
                  all_goals
                    go_wp2_with fail
                    go_meet
                    exact ⟨rfl, rfl, k, dot, dig, nd, nm, dp, m, tr, by omega, HK, rfl, rfl, rfl, rfl, rfl, rfl, rfl, rfl, Lib.hid (by rw [HF.out, HE.out]), HMB⟩
            · have HZ : Hid ((By s).drop k = []) := Lib.hid (drop_all s k (by omega))
              go_wp2_with fail
              go_meet
              exact ⟨rfl, rfl, k, dot, dig, nd, nm, dp, m, tr, by omega, HK, rfl, rfl, rfl, rfl, rfl, rfl, rfl, rfl, Lib.hid (by rw [HF.out, HZ.out]; rfl), HMB⟩
        case rest =>
          obtain ⟨rfl, rfl, k, dot, dig, nd, nm, dp, m, tr, hk, HK0, rfl, rfl, rfl, rfl, rfl, rfl, rfl, rfl, HF, HMB⟩ := hcut
          have hRF : rfF t = if dig = false then none else (exF ((By s).drop k)).map fun p => (m, (if m ≠ 0 then (if dot = true then dp else (nd : Int)) + p.1 - (nm : Int) else 0), tr, p.2) := by
            unfold rfF
            rw [HF.out]
          have hm19 := HMB.out.m19
          have hb1 := HMB.out.nd
          have hb2 := HMB.out.nm
          have hb3 := HMB.out.dp
          dsimp only at hm19 hb1 hb2 hb3
          have HRF := Lib.hid hRF
          have HT2 := HT
          clear HF HMB hRF HMB0 HT
          cases dig with
          | false =>
            go_wp2_with fail
            refine bodyPost_ret (results_t7 rfl _ _ _) rfl ?_
            exact ⟨rfl, .inl ⟨by rw [HRF.out]; simp, _, _, _, _, _, _, rfl⟩⟩
          | true =>
            obtain ⟨dq, hdq⟩ : ∃ dq : Int, dq = if dot = true then dp else (nd : Int) := ⟨_, rfl⟩
            have hdqb : -(s.size : Int) ≤ dq ∧ dq ≤ s.size := by rw [hdq]; split <;> omega
            have HRF2 : Hid (rfF t = (exF ((By s).drop k)).map fun p => (m, (if m ≠ 0 then dq + p.1 - (nm : Int) else 0), tr, p.2)) := Lib.hid (by rw [HRF.out, if_neg (by decide), hdq])
            clear HRF
            go_upto_if 142 with (fail)
            go_cut [17] from 141 to 143 (fun v wx => w = wx ∧ v = .int .i64 dq)
            case first =>
              cases dot with
              | true =>
                subst hdq
                go_wp2_with fail
                go_meet
                exact ⟨rfl, rfl⟩
              | false =>
                subst hdq
                go_wp2_with fail
                go_meet
                exact ⟨rfl, rfl⟩
            case rest =>
              obtain ⟨rfl, rfl⟩ := hcut
              clear hdq hb1 hb3
              go_upto_region 57 with (fail)
              have HE : Hid (∀ b : Bool, b = decide (∃ h : k < s.size, s[k] = 101 ∨ s[k] = 69) → b = false → exF ((By s).drop k) = some (0, (By s).drop k)) := Lib.hid (by
                intro b hb hf
                rw [hf] at hb
                have hno := decide_eq_false_iff_not.1 hb.symm
                by_cases hlt : k < s.size
                · rw [show (By s).drop k = _ from drop_list s k hlt, exF_no (fun h => hno ⟨hlt, h⟩)]
                · rw [show (By s).drop k = [] from drop_all s k (by omega)]; rfl)
              obtain ⟨be, hbe⟩ : ∃ b : Bool, b = decide (∃ h : k < s.size, s[k] = 101 ∨ s[k] = 69) := ⟨_, rfl⟩
              go_cut [161] from 150 to 161 (fun b wx => w = wx ∧ b = .bool be)
              case first =>
                by_cases hlt : k < s.size
                · have hi0 : (0 : Int) ≤ k := by omega
                  have hi1 : (k : Int) < s.size := by omega
                  have hl := lowr_any s[k] w
                  have hle := low_e s[k]
                  have hbe2 : be = decide (s[k] = 101 ∨ s[k] = 69) := by rw [hbe, decide_eq_decide]; exact ⟨fun ⟨_, h⟩ => h, fun h => ⟨hlt, h⟩⟩
                  rw [← hbe2] at hle
                  clear hbe hbe2
                  cases be with
                  | true =>
                    go_wp2_with (go_at_call 127; refine hl.mono ?_; rintro _ wq ⟨rfl, hwq⟩; rw [hwq]; clear hwq)
                    go_meet
                    exact ⟨rfl, rfl⟩
                  | false =>
                    go_wp2_with (go_at_call 127; refine hl.mono ?_; rintro _ wq ⟨rfl, hwq⟩; rw [hwq]; clear hwq)
                    go_meet
                    exact ⟨rfl, rfl⟩
                · have hi3 : ¬ (k : Int) < s.size := by omega
                  have hb2 : be = false := by rw [hbe, decide_eq_false_iff_not]; rintro ⟨h, _⟩; exact hlt h
                  subst hb2
                  clear hbe hlt
                  go_wp2_with fail
                  go_meet
                  exact ⟨rfl, rfl⟩
              case rest =>
                obtain ⟨rfl, rfl⟩ := hcut
                have HBE := Lib.hid hbe
                clear hbe
                go_upto_if 161 with (fail)
                go_cut [7, 9, 17] from 162 to 239 (fun i vu v wx => w = wx ∧ vu = .bool false ∧ ∃ (k' : Nat) (x : Int), k' ≤ s.size ∧ i = .int .i64 k' ∧ v = .int .i64 (dq + x) ∧ -99999 ≤ x ∧ x ≤ 99999 ∧ Hid (exF ((By s).drop k) = some (x, (By s).drop k')))
                case first =>
                  cases be with
                  | false =>
                    go_wp2_with fail
                    go_meet
                    exact ⟨rfl, rfl, k, 0, hk, rfl, by go_num, by decide, by decide, Lib.hid (HE.out _ HBE.out rfl)⟩
                  | true =>
                    obtain ⟨hlt, hce⟩ := of_decide_eq_true HBE.out.symm
                    have HCE := Lib.hid hce
                    have HDK := Lib.hid (drop_list s k hlt)
                    clear hce HBE HE
                    have hi1 : (k : Int) < s.size := by omega
                    by_cases hlt2 : k + 1 < s.size
                    · have hlt2' : (k : Int) + 1 < s.size := by omega
                      have HDK1 := Lib.hid (drop_list s (k + 1) hlt2)
                      go_upto_block 4 with (fail)
                      go_cut [7, 19] from 171 to 178 (fun i v wx => w = wx ∧ ∃ (k2 : Nat) (sg : Int), k2 ≤ s.size ∧ Hid (k0 ≤ k2) ∧ i = .int .i64 k2 ∧ v = .int .i64 sg ∧ (sg = 1 ∨ sg = -1) ∧ Hid (esF ((By s).drop (k + 1)) = (sg, (By s).drop k2)))
                      case first =>
                        by_cases hp : s[k + 1] = 43
                        · have hpb : ((s[k + 1].toNat : Int) == 43) = true := t_eq hp rfl
                          have HES : Hid (esF ((By s).drop (k + 1)) = (1, (By s).drop (k + 1 + 1))) := Lib.hid (by rw [show (By s).drop (k + 1) = _ from HDK1.out, esF, if_pos hp])
                          clear hp
                          go_wp2_with fail
                          go_meet
                          exact ⟨rfl, k + 1 + 1, 1, by omega, Lib.hid (by have := HK0.out; omega), by go_num, rfl, .inl rfl, HES⟩
                        · have hpb : ((s[k + 1].toNat : Int) == 43) = false := f_eq hp rfl
                          by_cases hq : s[k + 1] = 45
                          · have hqb : ((s[k + 1].toNat : Int) == 45) = true := t_eq hq rfl
                            have HES : Hid (esF ((By s).drop (k + 1)) = (-1, (By s).drop (k + 1 + 1))) := Lib.hid (by rw [show (By s).drop (k + 1) = _ from HDK1.out, esF, if_neg hp, if_pos hq])
                            clear hp hq
                            go_wp2_with fail
                            go_meet
                            exact ⟨rfl, k + 1 + 1, -1, by omega, Lib.hid (by have := HK0.out; omega), by go_num, rfl, .inr rfl, HES⟩
                          · have hqb : ((s[k + 1].toNat : Int) == 45) = false := f_eq hq rfl
                            have HES : Hid (esF ((By s).drop (k + 1)) = (1, (By s).drop (k + 1))) := Lib.hid (by rw [show (By s).drop (k + 1) = _ from HDK1.out, esF, if_neg hp, if_neg hq])
                            clear hp hq
                            go_wp2_with fail
                            go_meet
                            exact ⟨rfl, k + 1, 1, by omega, Lib.hid (by have := HK0.out; omega), by go_num, rfl, .inl rfl, HES⟩
                      case rest =>
                        obtain ⟨rfl, k2, sg, hk2, HK02, rfl, rfl, hsg, HES⟩ := hcut
                        have HEX : Hid (exF ((By s).drop k) = edF ((By s).drop k2) sg) := Lib.hid (by rw [show (By s).drop k = _ from HDK.out]; exact exF_e HCE.out (by rw [HDK1.out]; simp) HES.out)
                        clear HCE HDK HDK1 HES
                        by_cases hlt3 : k2 < s.size
                        · have HD2 := Lib.hid (drop_list s k2 hlt3)
                          have hlt3' : (k2 : Int) < s.size := by omega
                          by_cases hdg : isDig s[k2] = true
                          · have HE2 : Hid (exF ((By s).drop k) = some (((eF ((By s).drop k2) 0).1 : Int) * sg, (eF ((By s).drop k2) 0).2)) := Lib.hid (by rw [HEX.out, show (By s).drop k2 = _ from HD2.out, edF, if_pos hdg])
                            obtain ⟨h48, h57⟩ := (isDig_iff _).1 hdg
                            clear hdg HEX
                            go_wp2_with fail
                            go_loopg [7, 9, 20] (s.size - k2) (fun gh i vu ve wr => wr = w ∧ vu = .bool false ∧ ∃ (j e : Nat), j + gh = s.size ∧ i = .int .i64 j ∧ ve = .int .i64 e ∧ e ≤ 99999 ∧ Hid (k0 ≤ j) ∧ Hid (eF ((By s).drop k2) 0 = eF ((By s).drop j) e))
                            case atStart => exact ⟨rfl, rfl, k2, 0, by omega, rfl, rfl, by omega, Lib.hid HK02.out, Lib.hid rfl⟩
                            case round =>
                              obtain ⟨rfl, rfl, j, e, hj, rfl, rfl, he, HKJ, HEJ⟩ := hrel

                              by_cases hlj : j < s.size
                              · have HDJ := Lib.hid (drop_list s j hlj)
                                have hlj' : (j : Int) < s.size := by omega
                                have h95 : s[j] ≠ 95 := HOK.out.1 _ (by
                                  rw [← HT2.out]
                                  exact mem_drop_of hlj HKJ.out)
                                have h95b : ((s[j].toNat : Int) == 95) = false := f_eq h95 rfl
                                clear h95
                                by_cases hdj : isDig s[j] = true
                                · obtain ⟨g48, g57⟩ := (isDig_iff _).1 hdj
                                  have HDJ2 := Lib.hid hdj
                                  clear hdj
                                  by_cases he4 : e < 10000
                                  · have HST : Hid (eF ((By s).drop j) e = eF ((By s).drop (j + 1)) (e * 10 + (s[j].toNat - 48))) := Lib.hid (by rw [show (By s).drop j = _ from HDJ.out, eF, if_pos HDJ2.out, if_pos he4])
                                    have hw3 : IntKind.i64.wrap (s[j].toNat : Int) = (s[j].toNat : Int) := IntWalk.i64_in _ (by omega)
                                    go_wp2_with fail
                                    go_roundg (s.size - (j + 1))
                                    case measure => omega
                                    case rel => exact ⟨rfl, rfl, j + 1, e * 10 + (s[j].toNat - 48), by omega, by go_num, congrArg (Value.int .i64) (by omega), by omega, Lib.hid (Nat.le_succ_of_le HKJ.out), Lib.hid (by rw [HEJ.out, HST.out])⟩
                                  · have HST : Hid (eF ((By s).drop j) e = eF ((By s).drop (j + 1)) e) := Lib.hid (by rw [show (By s).drop j = _ from HDJ.out, eF, if_pos HDJ2.out, if_neg he4])
                                    go_wp2_with fail
                                    go_roundg (s.size - (j + 1))
                                    case measure => omega
                                    case rel => exact ⟨rfl, rfl, j + 1, e, by omega, by go_num, rfl, he, Lib.hid (Nat.le_succ_of_le HKJ.out), Lib.hid (by rw [HEJ.out, HST.out])⟩
                                · have HST : Hid (eF ((By s).drop j) e = (e, (By s).drop j)) := Lib.hid (by rw [show (By s).drop j = _ from HDJ.out, eF, if_neg hdj])
                                  have hcase : ¬ (48 : Int) ≤ (s[j].toNat : Int) ∨ (48 : Int) ≤ (s[j].toNat : Int) ∧ ¬ (s[j].toNat : Int) ≤ 57 := by
                                    have h : ¬ (48 ≤ (s[j].toNat : Int) ∧ (s[j].toNat : Int) ≤ 57) := fun h => hdj ((isDig_iff _).2 h)
                                    omega
                                  clear hdj
                                  rcases hcase with g48 | ⟨g48, g57⟩
                                  all_goals
                                    rcases hsg with rfl | rfl
                                    · go_wp2_with fail
                                      go_meet
                                      exact ⟨rfl, rfl, j, (e : Int), by omega, rfl, by go_num, by omega, by omega, Lib.hid (by rw [HE2.out, HEJ.out, HST.out, Int.mul_one])⟩
                                    · go_wp2_with fail
                                      go_meet
                                      exact ⟨rfl, rfl, j, -(e : Int), by omega, rfl, by go_num, by omega, by omega, Lib.hid (by rw [HE2.out, HEJ.out, HST.out, Int.mul_neg_one])⟩
                              · have HST : Hid (eF ((By s).drop j) e = (e, (By s).drop j)) := Lib.hid (by rw [show (By s).drop j = [] from drop_all s j (by omega)]; rfl)
                                have hlj' : ¬ (j : Int) < s.size := by omega
                                rcases hsg with rfl | rfl
                                · go_wp2_with fail
                                  go_meet
                                  exact ⟨rfl, rfl, j, (e : Int), by omega, rfl, by go_num, by omega, by omega, Lib.hid (by rw [HE2.out, HEJ.out, HST.out, Int.mul_one])⟩
                                · go_wp2_with fail
                                  go_meet
                                  exact ⟨rfl, rfl, j, -(e : Int), by omega, rfl, by go_num, by omega, by omega, Lib.hid (by rw [HE2.out, HEJ.out, HST.out, Int.mul_neg_one])⟩
                          · have HE2 : Hid (rfF t = none) := Lib.hid (by rw [HRF2.out, HEX.out, show (By s).drop k2 = _ from HD2.out, edF, if_neg hdg]; rfl)
                            have hcase : (s[k2].toNat : Int) < 48 ∨ ¬ (s[k2].toNat : Int) < 48 ∧ (57 : Int) < (s[k2].toNat : Int) := by
                              have h : ¬ (48 ≤ (s[k2].toNat : Int) ∧ (s[k2].toNat : Int) ≤ 57) := fun h => hdg ((isDig_iff _).2 h)
                              omega
                            clear hdg HEX
                            rcases hcase with h48 | ⟨h48, h57⟩
                            all_goals
                              go_wp2_with fail
                              refine bodyPost_ret (results_t7 rfl _ _ _) rfl ?_
                              exact ⟨rfl, .inl ⟨HE2.out, _, _, _, _, _, _, rfl⟩⟩
                        · have HE2 : Hid (rfF t = none) := Lib.hid (by rw [HRF2.out, HEX.out, show (By s).drop k2 = [] from drop_all s k2 (by omega)]; rfl)
                          have hlt3' : ¬ (k2 : Int) < s.size := by omega
                          clear HEX
                          go_wp2_with fail
                          refine bodyPost_ret (results_t7 rfl _ _ _) rfl ?_
                          exact ⟨rfl, .inl ⟨HE2.out, _, _, _, _, _, _, rfl⟩⟩
                    · have HE2 : Hid (rfF t = none) := Lib.hid (by rw [HRF2.out, show (By s).drop k = _ from HDK.out, show (By s).drop (k + 1) = [] from drop_all s (k + 1) (by omega), exF_nil HCE.out]; rfl)
                      have hlt2' : ¬ (k : Int) + 1 < s.size := by omega
                      go_wp2_with fail
                      refine bodyPost_ret (results_t7 rfl _ _ _) rfl ?_
                      exact ⟨rfl, .inl ⟨HE2.out, _, _, _, _, _, _, rfl⟩⟩
                case rest =>
                  obtain ⟨rfl, rfl, k', x, hk', rfl, rfl, hx1, hx2, HX⟩ := hcut
                  have HFIN : Hid (rfF t = some (m, (if m ≠ 0 then dq + x - (nm : Int) else 0), tr, (By s).drop k')) := Lib.hid (by rw [HRF2.out, HX.out]; rfl)
                  have hlenk : s.size - ((By s).drop k').length = k' := by rw [List.length_drop, size_list]; omega
                  have HLK := Lib.hid hlenk
                  clear hlenk HRF2 HX HE HBE
                  by_cases hm0 : m = 0
                  · subst hm0
                    go_wp2_with fail
                    try rw [Exit.noGoto_ret]
                    refine bodyPost_ret (results_t7 rfl _ _ _) rfl ?_
                    exact ⟨rfl, .inr ⟨_, _, _, _, HFIN.out, by rw [HLK.out]; rfl⟩⟩
                  · have hmb : ((m : Int) == 0) = false := by rw [beq_eq_false_iff_ne]; omega
                    have HM0 := Lib.hid hm0
                    clear hm0
                    go_wp2_with fail
                    try rw [Exit.noGoto_ret]
                    refine bodyPost_ret (results_t7 rfl _ _ _) rfl ?_
                    have h := HFIN.out
                    rw [if_pos HM0.out] at h
                    exact ⟨rfl, .inr ⟨_, _, _, _, h, by rw [HLK.out]; rfl⟩⟩
end Go.Proofs.YtadpeebcombjnaaGreatDoor
