/- The parser's small readers: EMPTY or a parenthesis, the closing parenthesis. -/
import Derived.Test.YtadpeebcombjnaaGreatDoorLBLC
import Derived.Test.YtadpeebcombjnaaGreatDoorPQ4
namespace Go.Proofs.YtadpeebcombjnaaGreatDoor
open Go Go.Proofs Go.RowKit Go.Lib
set_option maxRecDepth 100000
theorem want_any (a b : ByteArray) (w : World) : Calls Tryz.prog 56 #[.string a, .string b] w fun e w' => (∃ v, IsErr v ∧ e = .returned v) ∧ w' = w := by
  go_enter Tryz.func56, Tryz.ntmps56
  go_wp2
  go_ret
  exact ⟨⟨_, ⟨_, _, rfl⟩, rfl⟩, rfl⟩
theorem str_eq (l m : List UInt8) : ((⟨l.toArray⟩ : ByteArray) = ⟨m.toArray⟩) ↔ l = m := by
  constructor
  · intro h
    injection h with h
    simpa using h
  · rintro rfl; rfl
set_option maxHeartbeats 2000000 in
theorem emptyOrParen_any {base B R : Nat} {s : ByteArray} {w : World} {k : Nat} (h : Ready base B R s w k) {j : Bool} {ts : List Tok} (ht : toksAt ((By s).drop k) j = some ts) (hz : ∀ t ∈ ts, t.1 = 49 → ∀ r, t.2 = 48 :: r → digN r = 0) :
    Calls Tryz.prog 45 #[.pointer (some ⟨B, 0, none⟩)] w fun e w' => Fr base B R w w' ∧ (((ts = [] ∨ ∃ t ts', ts = t :: ts' ∧ t.2 ≠ EMP ∧ t.2 ≠ [40]) ∧ ∃ v, IsErr v ∧ e = .returned (.tuple #[.string ⟨#[]⟩, v])) ∨
      ∃ t ts', ts = t :: ts' ∧ (t.2 = EMP ∨ t.2 = [40]) ∧ e = .returned (.tuple #[.string ⟨t.2.toArray⟩, .nilIface]) ∧ ∃ n j', Ready base B R s w' n ∧ toksAt ((By s).drop n) j' = some ts') := by
  have hnext := lexNext h ht hz
  clear h ht hz
  go_enter Tryz.func45, Tryz.ntmps45
  go_wp2_with fail
  go_at_call 55
  refine hnext.mono ?_
  rintro e w1 ⟨hF, ⟨hts, v, ⟨vt, vd, rfl⟩, rfl⟩ | ⟨t, ts', hts, rfl, n, j', hR, htk⟩⟩
  · have HF := Lib.hid hF
    have HT := Lib.hid hts
    clear hF hts hnext
    go_wp2_with fail
    go_ret2
    exact ⟨HF.out, .inl ⟨.inl HT.out, _, ⟨_, _, rfl⟩, rfl⟩⟩
  · have HF := Lib.hid hF
    have HT := Lib.hid hts
    have HK := Lib.hid (And.intro hR htk)
    clear hF hts hnext hR htk
    obtain ⟨tk, tl⟩ := t
    by_cases h1 : tl = [69, 77, 80, 84, 89]
    · subst h1
      go_wp2_with fail
      go_ret2
      exact ⟨HF.out, .inr ⟨_, ts', HT.out, .inl rfl, rfl, n, j', HK.out⟩⟩
    · have e1 : (tl == [69, 77, 80, 84, 89]) = false := beq_eq_false_iff_ne.2 h1
      by_cases h2 : tl = [40]
      · subst h2
        clear h1 e1
        go_wp2_with fail
        go_ret2
        exact ⟨HF.out, .inr ⟨_, ts', HT.out, .inr rfl, rfl, n, j', HK.out⟩⟩
      · have e2 : (tl == [40]) = false := beq_eq_false_iff_ne.2 h2
        have H2 := Lib.hid (And.intro h1 h2)
        clear h1 h2
        go_wp2_with (go_at_call 56; refine (want_any _ _ _).mono ?_; rintro e w2 ⟨⟨v, ⟨vt, vd, rfl⟩, rfl⟩, rfl⟩)
        go_ret2
        exact ⟨HF.out, .inl ⟨.inr ⟨_, ts', HT.out, H2.out⟩, _, ⟨_, _, rfl⟩, rfl⟩⟩
set_option maxHeartbeats 2000000 in
theorem rightParen_any {base B R : Nat} {s : ByteArray} {w : World} {k : Nat} (h : Ready base B R s w k) {j : Bool} {ts : List Tok} (ht : toksAt ((By s).drop k) j = some ts) (hz : ∀ t ∈ ts, t.1 = 49 → ∀ r, t.2 = 48 :: r → digN r = 0) :
    Calls Tryz.prog 47 #[.pointer (some ⟨B, 0, none⟩)] w fun e w' => Fr base B R w w' ∧ (((ts = [] ∨ ∃ t ts', ts = t :: ts' ∧ t.2 ≠ [41]) ∧ ∃ v, IsErr v ∧ e = .returned v) ∨
      ∃ t ts', ts = t :: ts' ∧ t.2 = [41] ∧ e = .returned .nilIface) := by
  have hnext := lexNext h ht hz
  clear h ht hz
  go_enter Tryz.func47, Tryz.ntmps47
  go_wp2_with fail
  go_at_call 55
  refine hnext.mono ?_
  rintro e w1 ⟨hF, ⟨hts, v, ⟨vt, vd, rfl⟩, rfl⟩ | ⟨t, ts', hts, rfl, n, j', hR, htk⟩⟩
  · have HF := Lib.hid hF
    have HT := Lib.hid hts
    clear hF hts hnext
    go_wp2_with fail
    go_ret
    exact ⟨HF.out, .inl ⟨.inl HT.out, _, ⟨_, _, rfl⟩, rfl⟩⟩
  · have HF := Lib.hid hF
    have HT := Lib.hid hts
    clear hF hts hnext hR htk
    obtain ⟨tk, tl⟩ := t
    by_cases h1 : tl = [41]
    · subst h1
      go_wp2_with fail
      go_ret
      exact ⟨HF.out, .inr ⟨_, ts', HT.out, rfl, rfl⟩⟩
    · have e1 : (tl == [41]) = false := beq_eq_false_iff_ne.2 h1
      have H1 := Lib.hid h1
      clear h1
      go_wp2_with (go_at_call 56; refine (want_any _ _ _).mono ?_; rintro e w2 ⟨⟨v, ⟨vt, vd, rfl⟩, rfl⟩, rfl⟩)
      go_ret
      exact ⟨HF.out, .inl ⟨.inr ⟨_, ts', HT.out, H1.out⟩, _, ⟨_, _, rfl⟩, rfl⟩⟩
end Go.Proofs.YtadpeebcombjnaaGreatDoor
