/- Walks through the small functions of the reference that read texts: digits, decimal and the like. -/
import Derived.Test.YtadpeebcombjnaaGreatDoorProg
import Derived.WalkKit
import Derived.WalkLawsBesides
import Derived.Deep.QuietTactic
import Derived.BigQuiet
import Derived.Deep.DeepFit
import Derived.Deep.LoopGhost
import Derived.Deep.DeepCutAuto
import Derived.Lib.Hide
import Derived.Test.YtadpeebcombjnaaGreatDoorPQ4
namespace Go.Proofs.YtadpeebcombjnaaGreatDoor
open Go Go.Proofs Go.RowKit
set_option maxRecDepth 100000
theorem digits_any (s : ByteArray) (w : World) (hs : s.size ≤ maxLen) :
    Calls Tryz.prog 48 #[.string s] w fun e w' => e = .returned (.int .i64 (digN s.data.toList : Nat)) ∧ w = w' := by
  unfold maxLen at hs
  go_enter Tryz.func48, Tryz.ntmps48
  go_wp2
  go_loop [3] (fun n => ∃ k : Nat, k ≤ s.size ∧ n = .int .i64 k ∧ Hid (digN s.data.toList = k + digN (s.data.toList.drop k))) (fun i => s.size - (intOf i).toNat)
  case atStart => exact ⟨0, Nat.zero_le _, rfl, Lib.hid (by simp)⟩
  case round =>
    obtain ⟨k, hk, rfl, HD⟩ := hrel
    by_cases hlt : k < s.size
    · have HC := Lib.hid (drop_list s k hlt)
      by_cases hd : isDig s[k] = true
      · have HDD := Lib.hid hd
        obtain ⟨h1, h2⟩ := (isDig_iff _).1 hd
        clear hd
        go_wp2
        go_round
        case rel => exact ⟨k + 1, by omega, by go_num, Lib.hid (by rw [HD.out, HC.out, digN, if_pos HDD.out]; omega)⟩
        case measure => simp [intOf]; omega
      · have HDD := Lib.hid hd
        have hd' : ¬ (48 ≤ (s[k].toNat : Int) ∧ (s[k].toNat : Int) ≤ 57) := fun h => hd ((isDig_iff _).2 h)
        clear hd
        by_cases h1 : 48 ≤ (s[k].toNat : Int)
        all_goals
          go_wp2
          go_ret
          exact ⟨by rw [HD.out, HC.out, digN, if_neg HDD.out]; rfl, rfl⟩
    · have HC := Lib.hid (drop_all s k (by omega))
      go_wp2
      go_ret
      exact ⟨by rw [HD.out, HC.out]; rfl, rfl⟩
end Go.Proofs.YtadpeebcombjnaaGreatDoor
namespace Go.Proofs.YtadpeebcombjnaaGreatDoor
open Go Go.Proofs Go.RowKit
set_option maxRecDepth 100000
theorem digits_from (s : ByteArray) (i : Nat) (w : World) (hs : s.size ≤ maxLen) :
    Calls Tryz.prog 48 #[.string (s.extract i s.size)] w fun e w' => e = .returned (.int .i64 (digN (s.data.toList.drop i) : Nat)) ∧ w = w' := by
  have h := digits_any (s.extract i s.size) w (by rw [extract_size]; omega)
  rw [extract_list] at h
  exact h
theorem dig_drop_le (s : ByteArray) (i : Nat) : digN (s.data.toList.drop i) ≤ s.size - i := by
  have h := digN_le (s.data.toList.drop i)
  rw [List.length_drop, size_list] at h
  exact h
set_option maxHeartbeats 1000000 in
theorem decimal_any (s : ByteArray) (w : World) (hs : s.size ≤ maxLen) :
    Calls Tryz.prog 33 #[.string s] w fun e w' => e = .returned (.int .i64 (decN s.data.toList : Nat)) ∧ w = w' := by
  have hs' := hs
  have hn := digN_le s.data.toList
  rw [size_list] at hn
  have hm := manN_le s.data.toList
  rw [size_list] at hm
  unfold maxLen at hs
  have hq := dig_drop_le s (digN s.data.toList + 1)
  go_enter Tryz.func33, Tryz.ntmps33
  go_wp2_with fail
  refine (digits_any _ _ hs').mono ?_; rintro e w' ⟨rfl, rfl⟩
  have HM : Hid (∃ m : Nat, manN s.data.toList = m ∧ m ≤ s.size) := Lib.hid ⟨_, rfl, hm⟩
  clear hm
  have HV := Lib.hid (exp_view s (manN s.data.toList))
  have HD : Hid (decN s.data.toList = if manN s.data.toList = 0 then 0 else expN s.data.toList (manN s.data.toList)) := Lib.hid rfl
  obtain ⟨h1, h2⟩ | ⟨h1, h2, h3⟩ | ⟨h1, h2, h3⟩ := dot_view s
  · have H2 := Lib.hid h2
    have hx := h2
    clear h2
    go_upto_if 35 with (fail)
    go_cut [3] (fun n wx => w = wx ∧ ∃ m : Nat, n = .int .i64 m ∧ m ≤ s.size ∧ Hid (manN s.data.toList = m) ∧ Hid (¬ m = 0))
    case first =>
      obtain ⟨m, hm1, hm2⟩ := HM.out
      by_cases hz : manN s.data.toList = 0
      · have HZ := Lib.hid hz
        have hz' : ((((digN s.data.toList : Nat) : Int) : Int) == 0) = true := by simp; omega
        clear hz
        go_wp2
        all_goals (go_ret; exact ⟨by rw [HD.out, if_pos HZ.out]; rfl, rfl⟩)
      · have HZ := Lib.hid hz
        have hz' : ((((digN s.data.toList : Nat) : Int) : Int) == 0) = false := by simp; omega
        clear hz
        go_wp2
        go_meet
        exact ⟨rfl, manN s.data.toList, by congr 1; omega, by omega, Lib.hid rfl, HZ⟩
    case rest =>
      obtain ⟨rfl, m, rfl, hm, HMM, HMZ⟩ := hcut
      have HDD : Hid (decN s.data.toList = expN s.data.toList m) := Lib.hid (by rw [HD.out, HMM.out, if_neg HMZ.out])
      clear HD HM HMM HMZ H2
      obtain ⟨h4, h5⟩ | ⟨h4, h5, h6, h7⟩ | ⟨h4, h5, h6⟩ := exp_view s m
      · have HR : Hid (decN s.data.toList = m) := Lib.hid (by rw [HDD.out, h5])
        clear HDD h5
        go_wp2_with (go_at_call 48; refine (digits_from _ _ _ hs').mono ?_; rintro e w' ⟨rfl, rfl⟩)
        all_goals (go_ret; exact ⟨by rw [HR.out]; first | rfl | (congr 2; omega), rfl⟩)
      · have HR : Hid (decN s.data.toList = m) := Lib.hid (by rw [HDD.out, h7])
        clear HDD h7
        go_wp2_with (go_at_call 48; refine (digits_from _ _ _ hs').mono ?_; rintro e w' ⟨rfl, rfl⟩)
        all_goals (go_ret; exact ⟨by rw [HR.out]; first | rfl | (congr 2; omega), rfl⟩)
      · obtain h5 | ⟨h5, h5'⟩ := h5
        all_goals
          obtain ⟨h7, h8⟩ | ⟨h7, h8, h9, h10⟩ | ⟨h7, h8, h10⟩ := h6
          · have HE := Lib.hid h8
            clear h8
            by_cases hk : 0 < digN (s.data.toList.drop (m + 1))
            · have HR : Hid (decN s.data.toList = m + 1 + digN (s.data.toList.drop (m + 1))) := Lib.hid (by rw [HDD.out, HE.out, if_pos hk])
              clear HDD HE
              have hq2 := dig_drop_le s (m + 1)
              go_wp2_with (go_at_call 48; refine (digits_from _ _ _ hs').mono ?_; rintro e w' ⟨rfl, rfl⟩)
              all_goals (go_ret; exact ⟨by rw [HR.out]; first | rfl | (congr 2; omega), rfl⟩)
            · have HR : Hid (decN s.data.toList = m) := Lib.hid (by rw [HDD.out, HE.out, if_neg hk])
              clear HDD HE
              go_wp2_with (go_at_call 48; refine (digits_from _ _ _ hs').mono ?_; rintro e w' ⟨rfl, rfl⟩)
              all_goals (go_ret; exact ⟨by rw [HR.out]; first | rfl | (congr 2; omega), rfl⟩)
          · have HE := Lib.hid h10
            clear h10
            by_cases hk : 0 < digN (s.data.toList.drop (m + 1))
            · have HR : Hid (decN s.data.toList = m + 1 + digN (s.data.toList.drop (m + 1))) := Lib.hid (by rw [HDD.out, HE.out, if_pos hk])
              clear HDD HE
              have hq2 := dig_drop_le s (m + 1)
              go_wp2_with (go_at_call 48; refine (digits_from _ _ _ hs').mono ?_; rintro e w' ⟨rfl, rfl⟩)
              all_goals (go_ret; exact ⟨by rw [HR.out]; first | rfl | (congr 2; omega), rfl⟩)
            · have HR : Hid (decN s.data.toList = m) := Lib.hid (by rw [HDD.out, HE.out, if_neg hk])
              clear HDD HE
              go_wp2_with (go_at_call 48; refine (digits_from _ _ _ hs').mono ?_; rintro e w' ⟨rfl, rfl⟩)
              all_goals (go_ret; exact ⟨by rw [HR.out]; first | rfl | (congr 2; omega), rfl⟩)
          · have HE := Lib.hid h10
            clear h10
            obtain h8 | ⟨h8, h8'⟩ := h8
            all_goals
              by_cases hk : 0 < digN (s.data.toList.drop (m + 1 + 1))
              · have HR : Hid (decN s.data.toList = m + 1 + 1 + digN (s.data.toList.drop (m + 1 + 1))) := Lib.hid (by rw [HDD.out, HE.out, if_pos hk])
                clear HDD HE
                have hq2 := dig_drop_le s (m + 1 + 1)
                go_wp2_with (go_at_call 48; refine (digits_from _ _ _ hs').mono ?_; rintro e w' ⟨rfl, rfl⟩)
                all_goals (go_ret; exact ⟨by rw [HR.out]; first | rfl | (congr 2; omega), rfl⟩)
              · have HR : Hid (decN s.data.toList = m) := Lib.hid (by rw [HDD.out, HE.out, if_neg hk])
                clear HDD HE
                go_wp2_with (go_at_call 48; refine (digits_from _ _ _ hs').mono ?_; rintro e w' ⟨rfl, rfl⟩)
                all_goals (go_ret; exact ⟨by rw [HR.out]; first | rfl | (congr 2; omega), rfl⟩)
  · have H2 := Lib.hid h3
    clear h3
    by_cases hz : digN s.data.toList + digN (s.data.toList.drop (digN s.data.toList + 1)) = 0
    · have hz' : (((digN s.data.toList : Nat) : Int) + ((digN (s.data.toList.drop (digN s.data.toList + 1)) : Nat) : Int) == 0) = true := by simp; omega
      have HZ := Lib.hid hz
      clear hz
      go_wp2_with (go_at_call 48; refine (digits_from _ _ _ hs').mono ?_; rintro e w' ⟨rfl, rfl⟩)
      go_ret
      exact ⟨by rw [HD.out, H2.out, if_pos HZ.out]; rfl, rfl⟩
    · have hz' : (((digN s.data.toList : Nat) : Int) + ((digN (s.data.toList.drop (digN s.data.toList + 1)) : Nat) : Int) == 0) = false := by simp; omega
      have hx : manN s.data.toList = digN s.data.toList + 1 + digN (s.data.toList.drop (digN s.data.toList + 1)) := by rw [H2.out, if_neg hz]
      have HX := Lib.hid hx
      clear hz H2 hx
      go_upto_if 35 with (go_at_call 48; refine (digits_from _ _ _ hs').mono ?_; rintro e w' ⟨rfl, rfl⟩)
      have H2 := HX
      go_cut [3] (fun n wx => w = wx ∧ ∃ m : Nat, n = .int .i64 m ∧ m ≤ s.size ∧ Hid (manN s.data.toList = m) ∧ Hid (¬ m = 0))
      case first =>
        obtain ⟨m, hm1, hm2⟩ := HM.out
        have hx := HX.out
        by_cases hz : manN s.data.toList = 0
        · have HZ := Lib.hid hz
          have hz' : (((((digN s.data.toList : Nat) : Int) + (1 + ((digN (s.data.toList.drop (digN s.data.toList + 1)) : Nat) : Int))) : Int) == 0) = true := by simp; omega
          clear hz
          go_wp2
          all_goals (go_ret; exact ⟨by rw [HD.out, if_pos HZ.out]; rfl, rfl⟩)
        · have HZ := Lib.hid hz
          have hz' : (((((digN s.data.toList : Nat) : Int) + (1 + ((digN (s.data.toList.drop (digN s.data.toList + 1)) : Nat) : Int))) : Int) == 0) = false := by simp; omega
          clear hz
          go_wp2
          go_meet
          exact ⟨rfl, manN s.data.toList, by congr 1; omega, by omega, Lib.hid rfl, HZ⟩
      case rest =>
        obtain ⟨rfl, m, rfl, hm, HMM, HMZ⟩ := hcut
        have HDD : Hid (decN s.data.toList = expN s.data.toList m) := Lib.hid (by rw [HD.out, HMM.out, if_neg HMZ.out])
        clear HD HM HMM HMZ H2 HX
        obtain ⟨h4, h5⟩ | ⟨h4, h5, h6, h7⟩ | ⟨h4, h5, h6⟩ := exp_view s m
        · have HR : Hid (decN s.data.toList = m) := Lib.hid (by rw [HDD.out, h5])
          clear HDD h5
          go_wp2_with (go_at_call 48; refine (digits_from _ _ _ hs').mono ?_; rintro e w' ⟨rfl, rfl⟩)
          all_goals (go_ret; exact ⟨by rw [HR.out]; first | rfl | (congr 2; omega), rfl⟩)
        · have HR : Hid (decN s.data.toList = m) := Lib.hid (by rw [HDD.out, h7])
          clear HDD h7
          go_wp2_with (go_at_call 48; refine (digits_from _ _ _ hs').mono ?_; rintro e w' ⟨rfl, rfl⟩)
          all_goals (go_ret; exact ⟨by rw [HR.out]; first | rfl | (congr 2; omega), rfl⟩)
        · obtain h5 | ⟨h5, h5'⟩ := h5
          all_goals
            obtain ⟨h7, h8⟩ | ⟨h7, h8, h9, h10⟩ | ⟨h7, h8, h10⟩ := h6
            · have HE := Lib.hid h8
              clear h8
              by_cases hk : 0 < digN (s.data.toList.drop (m + 1))
              · have HR : Hid (decN s.data.toList = m + 1 + digN (s.data.toList.drop (m + 1))) := Lib.hid (by rw [HDD.out, HE.out, if_pos hk])
                clear HDD HE
                have hq2 := dig_drop_le s (m + 1)
                go_wp2_with (go_at_call 48; refine (digits_from _ _ _ hs').mono ?_; rintro e w' ⟨rfl, rfl⟩)
                all_goals (go_ret; exact ⟨by rw [HR.out]; first | rfl | (congr 2; omega), rfl⟩)
              · have HR : Hid (decN s.data.toList = m) := Lib.hid (by rw [HDD.out, HE.out, if_neg hk])
                clear HDD HE
                go_wp2_with (go_at_call 48; refine (digits_from _ _ _ hs').mono ?_; rintro e w' ⟨rfl, rfl⟩)
                all_goals (go_ret; exact ⟨by rw [HR.out]; first | rfl | (congr 2; omega), rfl⟩)
            · have HE := Lib.hid h10
              clear h10
              by_cases hk : 0 < digN (s.data.toList.drop (m + 1))
              · have HR : Hid (decN s.data.toList = m + 1 + digN (s.data.toList.drop (m + 1))) := Lib.hid (by rw [HDD.out, HE.out, if_pos hk])
                clear HDD HE
                have hq2 := dig_drop_le s (m + 1)
                go_wp2_with (go_at_call 48; refine (digits_from _ _ _ hs').mono ?_; rintro e w' ⟨rfl, rfl⟩)
                all_goals (go_ret; exact ⟨by rw [HR.out]; first | rfl | (congr 2; omega), rfl⟩)
              · have HR : Hid (decN s.data.toList = m) := Lib.hid (by rw [HDD.out, HE.out, if_neg hk])
                clear HDD HE
                go_wp2_with (go_at_call 48; refine (digits_from _ _ _ hs').mono ?_; rintro e w' ⟨rfl, rfl⟩)
                all_goals (go_ret; exact ⟨by rw [HR.out]; first | rfl | (congr 2; omega), rfl⟩)
            · have HE := Lib.hid h10
              clear h10
              obtain h8 | ⟨h8, h8'⟩ := h8
              all_goals
                by_cases hk : 0 < digN (s.data.toList.drop (m + 1 + 1))
                · have HR : Hid (decN s.data.toList = m + 1 + 1 + digN (s.data.toList.drop (m + 1 + 1))) := Lib.hid (by rw [HDD.out, HE.out, if_pos hk])
                  clear HDD HE
                  have hq2 := dig_drop_le s (m + 1 + 1)
                  go_wp2_with (go_at_call 48; refine (digits_from _ _ _ hs').mono ?_; rintro e w' ⟨rfl, rfl⟩)
                  all_goals (go_ret; exact ⟨by rw [HR.out]; first | rfl | (congr 2; omega), rfl⟩)
                · have HR : Hid (decN s.data.toList = m) := Lib.hid (by rw [HDD.out, HE.out, if_neg hk])
                  clear HDD HE
                  go_wp2_with (go_at_call 48; refine (digits_from _ _ _ hs').mono ?_; rintro e w' ⟨rfl, rfl⟩)
                  all_goals (go_ret; exact ⟨by rw [HR.out]; first | rfl | (congr 2; omega), rfl⟩)
  · have H2 := Lib.hid h3
    have hx := h3
    clear h3
    go_upto_if 35 with (fail)
    go_cut [3] (fun n wx => w = wx ∧ ∃ m : Nat, n = .int .i64 m ∧ m ≤ s.size ∧ Hid (manN s.data.toList = m) ∧ Hid (¬ m = 0))
    case first =>
      obtain ⟨m, hm1, hm2⟩ := HM.out
      by_cases hz : manN s.data.toList = 0
      · have HZ := Lib.hid hz
        have hz' : ((((digN s.data.toList : Nat) : Int) : Int) == 0) = true := by simp; omega
        clear hz
        go_wp2
        all_goals (go_ret; exact ⟨by rw [HD.out, if_pos HZ.out]; rfl, rfl⟩)
      · have HZ := Lib.hid hz
        have hz' : ((((digN s.data.toList : Nat) : Int) : Int) == 0) = false := by simp; omega
        clear hz
        go_wp2
        go_meet
        exact ⟨rfl, manN s.data.toList, by congr 1; omega, by omega, Lib.hid rfl, HZ⟩
    case rest =>
      obtain ⟨rfl, m, rfl, hm, HMM, HMZ⟩ := hcut
      have HDD : Hid (decN s.data.toList = expN s.data.toList m) := Lib.hid (by rw [HD.out, HMM.out, if_neg HMZ.out])
      clear HD HM HMM HMZ H2
      obtain ⟨h4, h5⟩ | ⟨h4, h5, h6, h7⟩ | ⟨h4, h5, h6⟩ := exp_view s m
      · have HR : Hid (decN s.data.toList = m) := Lib.hid (by rw [HDD.out, h5])
        clear HDD h5
        go_wp2_with (go_at_call 48; refine (digits_from _ _ _ hs').mono ?_; rintro e w' ⟨rfl, rfl⟩)
        all_goals (go_ret; exact ⟨by rw [HR.out]; first | rfl | (congr 2; omega), rfl⟩)
      · have HR : Hid (decN s.data.toList = m) := Lib.hid (by rw [HDD.out, h7])
        clear HDD h7
        go_wp2_with (go_at_call 48; refine (digits_from _ _ _ hs').mono ?_; rintro e w' ⟨rfl, rfl⟩)
        all_goals (go_ret; exact ⟨by rw [HR.out]; first | rfl | (congr 2; omega), rfl⟩)
      · obtain h5 | ⟨h5, h5'⟩ := h5
        all_goals
          obtain ⟨h7, h8⟩ | ⟨h7, h8, h9, h10⟩ | ⟨h7, h8, h10⟩ := h6
          · have HE := Lib.hid h8
            clear h8
            by_cases hk : 0 < digN (s.data.toList.drop (m + 1))
            · have HR : Hid (decN s.data.toList = m + 1 + digN (s.data.toList.drop (m + 1))) := Lib.hid (by rw [HDD.out, HE.out, if_pos hk])
              clear HDD HE
              have hq2 := dig_drop_le s (m + 1)
              go_wp2_with (go_at_call 48; refine (digits_from _ _ _ hs').mono ?_; rintro e w' ⟨rfl, rfl⟩)
              all_goals (go_ret; exact ⟨by rw [HR.out]; first | rfl | (congr 2; omega), rfl⟩)
            · have HR : Hid (decN s.data.toList = m) := Lib.hid (by rw [HDD.out, HE.out, if_neg hk])
              clear HDD HE
              go_wp2_with (go_at_call 48; refine (digits_from _ _ _ hs').mono ?_; rintro e w' ⟨rfl, rfl⟩)
              all_goals (go_ret; exact ⟨by rw [HR.out]; first | rfl | (congr 2; omega), rfl⟩)
          · have HE := Lib.hid h10
            clear h10
            by_cases hk : 0 < digN (s.data.toList.drop (m + 1))
            · have HR : Hid (decN s.data.toList = m + 1 + digN (s.data.toList.drop (m + 1))) := Lib.hid (by rw [HDD.out, HE.out, if_pos hk])
              clear HDD HE
              have hq2 := dig_drop_le s (m + 1)
              go_wp2_with (go_at_call 48; refine (digits_from _ _ _ hs').mono ?_; rintro e w' ⟨rfl, rfl⟩)
              all_goals (go_ret; exact ⟨by rw [HR.out]; first | rfl | (congr 2; omega), rfl⟩)
            · have HR : Hid (decN s.data.toList = m) := Lib.hid (by rw [HDD.out, HE.out, if_neg hk])
              clear HDD HE
              go_wp2_with (go_at_call 48; refine (digits_from _ _ _ hs').mono ?_; rintro e w' ⟨rfl, rfl⟩)
              all_goals (go_ret; exact ⟨by rw [HR.out]; first | rfl | (congr 2; omega), rfl⟩)
          · have HE := Lib.hid h10
            clear h10
            obtain h8 | ⟨h8, h8'⟩ := h8
            all_goals
              by_cases hk : 0 < digN (s.data.toList.drop (m + 1 + 1))
              · have HR : Hid (decN s.data.toList = m + 1 + 1 + digN (s.data.toList.drop (m + 1 + 1))) := Lib.hid (by rw [HDD.out, HE.out, if_pos hk])
                clear HDD HE
                have hq2 := dig_drop_le s (m + 1 + 1)
                go_wp2_with (go_at_call 48; refine (digits_from _ _ _ hs').mono ?_; rintro e w' ⟨rfl, rfl⟩)
                all_goals (go_ret; exact ⟨by rw [HR.out]; first | rfl | (congr 2; omega), rfl⟩)
              · have HR : Hid (decN s.data.toList = m) := Lib.hid (by rw [HDD.out, HE.out, if_neg hk])
                clear HDD HE
                go_wp2_with (go_at_call 48; refine (digits_from _ _ _ hs').mono ?_; rintro e w' ⟨rfl, rfl⟩)
                all_goals (go_ret; exact ⟨by rw [HR.out]; first | rfl | (congr 2; omega), rfl⟩)
end Go.Proofs.YtadpeebcombjnaaGreatDoor
