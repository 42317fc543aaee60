/- The tokens of a text at their places: what stands between the blanks, in the words of the scanner's walk. -/
import Derived.Test.YtadpeebcombjnaaGreatDoorL7L8
namespace Go.Proofs.YtadpeebcombjnaaGreatDoor
open Go Go.Proofs
set_option maxRecDepth 100000
abbrev By (s : ByteArray) : List UInt8 := s.data.toList
theorem ru_get {s : ByteArray} {k : Nat} {c : UInt8} {r : List UInt8} (h : (By s).drop k = c :: r) : k < s.size ∧ ru s k = (c.toNat : Int) ∧ (By s).drop (k + 1) = r := by
  have hk : k < s.size := by
    rcases Nat.lt_or_ge k s.size with hc | hc
    · exact hc
    · rw [drop_all s k hc] at h; exact absurd h (by simp)
  have e := drop_list s k hk
  have h' : s[k] :: s.data.toList.drop (k + 1) = c :: r := e.symm.trans h
  injection h' with h1 h2
  exact ⟨hk, by rw [ru_lt hk, h1], h2⟩
theorem ru_nil {s : ByteArray} {k : Nat} (h : (By s).drop k = []) : s.size ≤ k := by
  rcases Nat.lt_or_ge k s.size with hc | hc
  · rw [drop_list s k hc] at h; exact absurd h (by simp)
  · exact hc
theorem isDig_ru (c : UInt8) : digI (c.toNat : Int) = isDig c := by
  rw [Bool.eq_iff_iff, isDig_iff]; simp [digI]
theorem isLet_ru (c : UInt8) : letI' (c.toNat : Int) = isLet c := by
  rw [Bool.eq_iff_iff, isLet_iff]; simp [letI']; omega
/-- What may stand behind a word or a decimal. -/
def Term (c : Int) : Prop := c = -1 ∨ c = 9 ∨ c = 10 ∨ c = 13 ∨ c = 32 ∨ c = 40 ∨ c = 41 ∨ c = 44
theorem Term.idI {c : Int} (h : Term c) (i : Int) : idI c i = false := by
  unfold Term at h
  unfold Go.Proofs.YtadpeebcombjnaaGreatDoor.idI letI' digI
  rcases h with rfl | rfl | rfl | rfl | rfl | rfl | rfl | rfl <;> simp
theorem Term.dig {c : Int} (h : Term c) : digI c = false := by rcases h with rfl | rfl | rfl | rfl | rfl | rfl | rfl | rfl <;> decide
theorem Term.lo {c : Int} (h : Term c) : bits BinOp.or IntKind.i32 32 c ≠ 101 ∧ bits BinOp.or IntKind.i32 32 c ≠ 112 ∧ bits BinOp.or IntKind.i32 32 c ≠ 120 ∧ bits BinOp.or IntKind.i32 32 c ≠ 111 ∧ bits BinOp.or IntKind.i32 32 c ≠ 98 := by
  rcases h with rfl | rfl | rfl | rfl | rfl | rfl | rfl | rfl <;> decide
theorem term_of {s : ByteArray} {n : Nat} {ts : List Tok} (h : toksAt ((By s).drop n) true = some ts) : Term (ru s n) := by
  cases hd : (By s).drop n with
  | nil => exact .inl (ru_ge (ru_nil hd))
  | cons c r =>
    obtain ⟨hk, e, _⟩ := ru_get hd
    rw [e]
    rw [hd] at h
    rcases byte_view c with ⟨h1, h2⟩ | ⟨h1, h2, h3⟩ | ⟨h1, h2⟩ | ⟨_, _, h1, h2⟩
    · unfold Term; omega
    · unfold Term; omega
    · rw [toksAt_sign (.inr (.inr (.inr h1))), if_pos ⟨h1, rfl⟩] at h
      exact absurd h (by simp)
    · by_cases hl : isLet c = true
      · rw [toksAt_word hl, if_pos rfl] at h
        exact absurd h (by simp)
      · rw [toksAt_num h1 h2 hl, if_pos (.inr rfl)] at h
        exact absurd h (by simp)
/-- A run of digits, in the scanner's words. -/
theorem run_dig {s : ByteArray} : ∀ (m : Nat) (k : Nat), digN ((By s).drop k) = m → (∀ j, k ≤ j → j < k + m → digI (ru s j) = true) ∧ digI (ru s (k + m)) = false := by
  intro m
  induction m with
  | zero =>
    intro k h
    refine ⟨fun j h1 h2 => by omega, ?_⟩
    cases hd : (By s).drop k with
    | nil => rw [Nat.add_zero, ru_ge (ru_nil hd)]; decide
    | cons c r =>
      obtain ⟨hk, e, _⟩ := ru_get hd
      rw [hd, digN] at h
      rw [Nat.add_zero, e, isDig_ru]
      by_cases hc : isDig c = true
      · rw [if_pos hc] at h; omega
      · simpa using hc
  | succ m ih =>
    intro k h
    cases hd : (By s).drop k with
    | nil => rw [hd, digN] at h; omega
    | cons c r =>
      obtain ⟨hk, e, e2⟩ := ru_get hd
      rw [hd, digN] at h
      by_cases hc : isDig c = true
      · rw [if_pos hc] at h
        obtain ⟨h1, h2⟩ := ih (k + 1) (by rw [e2]; omega)
        refine ⟨fun j hj1 hj2 => ?_, by rw [show k + (m + 1) = k + 1 + m from by omega]; exact h2⟩
        rcases Nat.lt_or_ge k j with hj | hj
        · exact h1 j hj (by omega)
        · rw [show j = k from by omega, e, isDig_ru]; exact hc
      · rw [if_neg hc] at h; omega
theorem run_let {s : ByteArray} : ∀ (m : Nat) (k : Nat), letN ((By s).drop k) = m → (∀ j, k ≤ j → j < k + m → letI' (ru s j) = true) := by
  intro m
  induction m with
  | zero => intro k h j h1 h2; omega
  | succ m ih =>
    intro k h
    cases hd : (By s).drop k with
    | nil => rw [hd, letN] at h; omega
    | cons c r =>
      obtain ⟨hk, e, e2⟩ := ru_get hd
      rw [hd, letN] at h
      by_cases hc : isLet c = true
      · rw [if_pos hc] at h
        have h1 := ih (k + 1) (by rw [e2]; omega)
        intro j hj1 hj2
        rcases Nat.lt_or_ge k j with hj | hj
        · exact h1 j hj (by omega)
        · rw [show j = k from by omega, e, isLet_ru]; exact hc
      · rw [if_neg hc] at h; omega
/-- What the scanner finds from a to n: a word, a decimal, or a sign. -/
inductive TWay (s : ByteArray) (a n : Nat) : Prop where
  | word (h : idI (ru s a) 0 = true) (h1 : ∀ j, a < j → j < n → idI (ru s j) 1 = true) (h2 : idI (ru s n) 1 = false)
  | int (h : digI (ru s a) = true) (n1 n3 : Nat) (h1 : a < n1)
    (hz : (ru s a = 48 ∧ n1 = a + 1 ∧ Run s (a + 1) n1 ∧ bits BinOp.or IntKind.i32 32 (ru s (a + 1)) ≠ 120 ∧ bits BinOp.or IntKind.i32 32 (ru s (a + 1)) ≠ 111 ∧ bits BinOp.or IntKind.i32 32 (ru s (a + 1)) ≠ 98) ∨ (ru s a ≠ 48 ∧ Run s a n1))
    (hdot : (ru s n1 = 46 ∧ Run s (n1 + 1) n3) ∨ (ru s n1 ≠ 46 ∧ n3 = n1)) (hexp : ExpAt s n3 n)
  | dot (h : ru s a = 46) (n3 : Nat) (h1 : a + 1 < n3) (h2 : Run s (a + 1) n3) (hexp : ExpAt s n3 n)
  | sign (h : ru s a = 40 ∨ ru s a = 41 ∨ ru s a = 44 ∨ ru s a = 45) (hn : n = a + 1)

theorem Term.ne95 {c : Int} (h : Term c) : c ≠ 95 ∧ c ≠ 46 ∧ c ≠ 101 ∧ c ≠ 69 := by unfold Term at h; omega
theorem lo_e {c : UInt8} (h : c = 101 ∨ c = 69) : bits BinOp.or IntKind.i32 32 (c.toNat : Int) = 101 := by rcases h with rfl | rfl <;> decide
theorem run_mk {s : ByteArray} {q n : Nat} (h : n = q + digN ((By s).drop q)) (hn : ru s n ≠ 95) : Run s q n := by
  subst h
  obtain ⟨h1, h2⟩ := run_dig (s := s) _ q rfl
  exact ⟨by omega, h1, h2, hn⟩
theorem exp_at {s : ByteArray} {a M n : Nat} (hn : n = a + expN ((By s).drop a) M) (ht : Term (ru s n)) : ExpAt s (a + M) n := by
  have hdd : ∀ k, ((By s).drop a).drop k = (By s).drop (a + k) := fun k => by rw [List.drop_drop]
  unfold expN at hn
  rw [hdd] at hn
  cases hd : (By s).drop (a + M) with
  | nil =>
    rw [hd] at hn
    simp only at hn
    subst hn
    exact .inr ⟨ht.lo.1, ht.lo.2.1, rfl⟩
  | cons c r =>
    rw [hd] at hn
    obtain ⟨hk, e, e2⟩ := ru_get hd
    simp only [hdd] at hn
    by_cases hc : c = 101 ∨ c = 69
    · rw [if_pos hc] at hn
      have hle : bits BinOp.or IntKind.i32 32 (ru s (a + M)) = 101 := by rw [e]; exact lo_e hc
      have hbad : n ≠ a + M := by
        rintro rfl
        exact ht.lo.1 hle
      refine .inl ⟨hle, ?_⟩
      have fin : ∀ q, n = q + digN ((By s).drop q) → 0 < digN ((By s).drop q) → Run s q n ∧ q < n := fun q h h0 => ⟨run_mk h ht.ne95.1, by omega⟩
      cases hr : r with
      | nil =>
        rw [hr] at hn
        simp only at hn
        have hnil := ru_nil (e2.trans hr)
        split at hn
        · rename_i h0
          exact ⟨a + M + 1, .inr ⟨by rw [ru_ge hnil]; decide, by rw [ru_ge hnil]; decide, rfl⟩, fin _ (by rw [Nat.add_assoc a M 1]; omega) (by rw [Nat.add_assoc a M 1]; exact h0)⟩
        · exact absurd hn hbad
      | cons d r2 =>
        rw [hr] at hn
        obtain ⟨hk2, e3, e4⟩ := ru_get (e2.trans hr)
        simp only at hn
        by_cases hs : d = 43 ∨ d = 45
        · rw [if_pos hs] at hn
          split at hn
          · rename_i h0
            refine ⟨a + M + 2, .inl ⟨?_, rfl⟩, fin _ (by rw [Nat.add_assoc a M 2]; omega) (by rw [Nat.add_assoc a M 2]; exact h0)⟩
            rw [e3]
            rcases hs with rfl | rfl
            · exact .inl rfl
            · exact .inr rfl
          · exact absurd hn hbad
        · rw [if_neg hs] at hn
          split at hn
          · rename_i h0
            refine ⟨a + M + 1, .inr ⟨?_, ?_, rfl⟩, fin _ (by rw [Nat.add_assoc a M 1]; omega) (by rw [Nat.add_assoc a M 1]; exact h0)⟩
            · rw [e3]; intro h; exact hs (.inl ((byte_eq _ _).2 h))
            · rw [e3]; intro h; exact hs (.inr ((byte_eq _ _).2 h))
          · exact absurd hn hbad
    · rw [if_neg hc] at hn
      subst hn
      exact .inr ⟨ht.lo.1, ht.lo.2.1, rfl⟩
theorem ExpAt.us {s : ByteArray} {m n : Nat} (h : ExpAt s m n) (ht : Term (ru s n)) : ru s m ≠ 95 ∧ bits BinOp.or IntKind.i32 32 (ru s m) ≠ 120 ∧ bits BinOp.or IntKind.i32 32 (ru s m) ≠ 111 ∧ bits BinOp.or IntKind.i32 32 (ru s m) ≠ 98 := by
  rcases h with ⟨h, _⟩ | ⟨_, _, rfl⟩
  · refine ⟨fun e => ?_, by rw [h]; decide, by rw [h]; decide, by rw [h]; decide⟩
    rw [e] at h
    exact absurd h (by decide)
  · exact ⟨ht.ne95.1, ht.lo.2.2⟩
theorem num_way {s : ByteArray} {a n : Nat} (hp : 0 < decN ((By s).drop a)) (hn : n = a + decN ((By s).drop a)) (ht : Term (ru s n)) (hz : ru s a = 48 → digN ((By s).drop (a + 1)) = 0) : TWay s a n := by
  have hdd : ∀ k, ((By s).drop a).drop k = (By s).drop (a + k) := fun k => by rw [List.drop_drop]
  unfold decN at hn hp
  by_cases hm : manN ((By s).drop a) = 0
  · rw [if_pos hm] at hp; omega
  rw [if_neg hm] at hn
  have hE := exp_at hn ht
  have hU := hE.us ht
  obtain ⟨hr1, hr2⟩ := run_dig (s := s) _ a rfl
  have hM : manN ((By s).drop a) = match (By s).drop (a + digN ((By s).drop a)) with
    | c :: r => if c = 46 then (if digN ((By s).drop a) + digN r = 0 then 0 else digN ((By s).drop a) + 1 + digN r) else digN ((By s).drop a)
    | [] => digN ((By s).drop a) := by
    unfold manN
    rw [hdd]
    generalize List.drop (a + digN (List.drop a (By s))) (By s) = x
    cases x <;> rfl
  generalize hMM : manN ((By s).drop a) = M at *
  generalize hDD : digN ((By s).drop a) = d at *
  have first : 0 < d → digI (ru s a) = true := fun h => hr1 a (Nat.le_refl _) (by omega)
  have zero : 0 < d → ru s a = 48 → d = 1 := by
    intro h0 h48
    have := hz h48
    cases hd : (By s).drop a with
    | nil => rw [hd, digN] at hDD; omega
    | cons c r =>
      obtain ⟨_, _, e2⟩ := ru_get hd
      rw [hd, digN] at hDD
      rw [e2] at this
      split at hDD <;> omega
  -- the whole part's run, when it ends at a + d
  have mk : 0 < d → ∀ n3, (ru s (a + d) = 46 ∧ Run s (a + d + 1) n3) ∨ (ru s (a + d) ≠ 46 ∧ n3 = a + d) → ExpAt s n3 n → (ru s (a + d) ≠ 95 ∧ bits BinOp.or IntKind.i32 32 (ru s (a + d)) ≠ 120 ∧ bits BinOp.or IntKind.i32 32 (ru s (a + d)) ≠ 111 ∧ bits BinOp.or IntKind.i32 32 (ru s (a + d)) ≠ 98) → TWay s a n := by
    intro h0 n3 hdot hexp hu
    refine .int (first h0) (a + d) n3 (by omega) ?_ hdot hexp
    by_cases h48 : ru s a = 48
    · have h1 := zero h0 h48
      subst h1
      exact .inl ⟨h48, rfl, ⟨Nat.le_refl _, fun j _ _ => by omega, hr2, hu.1⟩, hu.2⟩
    · exact .inr ⟨h48, by omega, hr1, hr2, hu.1⟩
  cases hd : (By s).drop (a + d) with
  | nil =>
    rw [hd] at hM
    simp only at hM
    subst hM
    exact mk (by omega) _ (.inr ⟨by rw [ru_ge (ru_nil hd)]; decide, rfl⟩) hE hU
  | cons c r =>
    obtain ⟨hk, e, e2⟩ := ru_get hd
    rw [hd] at hM
    simp only at hM
    by_cases hc : c = 46
    · rw [if_pos hc] at hM
      have h46 : ru s (a + d) = 46 := by rw [e, hc]; rfl
      have hs : d + digN r ≠ 0 := by intro h; rw [if_pos h] at hM; omega
      rw [if_neg hs] at hM
      have hrun : Run s (a + d + 1) (a + M) := run_mk (by rw [e2, hM]; omega) hU.1
      by_cases h0 : 0 < d
      · exact mk h0 _ (.inl ⟨h46, hrun⟩) hE ⟨by rw [h46]; decide, by rw [h46]; decide, by rw [h46]; decide, by rw [h46]; decide⟩
      · obtain rfl : d = 0 := by omega
        exact .dot h46 (a + M) (by omega) hrun hE
    · rw [if_neg hc] at hM
      subst hM
      exact mk (by omega) _ (.inr ⟨by rw [e]; intro h; exact hc ((byte_eq _ _).2 h), rfl⟩) hE hU
theorem expN_ge (l : List UInt8) (n : Nat) : n ≤ expN l n := by
  unfold expN
  split
  · split
    · have key : ∀ m, n ≤ m → n ≤ (if 0 < digN (l.drop m) then m + digN (l.drop m) else n) := by
        intro m hm
        split <;> omega
      refine key _ ?_
      split
      · split <;> omega
      · omega
    · omega
  · omega
theorem decN_ge {l : List UInt8} (h : 0 < digN l) : digN l ≤ decN l := by
  have hm : digN l ≤ manN l := by
    unfold manN
    split
    · split
      · split <;> omega
      · omega
    · omega
  unfold decN
  rw [if_neg (by omega)]
  exact Nat.le_trans hm (expN_ge _ _)
/-- From place k on: nothing but blanks, or blanks and then a token. -/
theorem toks_view {s : ByteArray} : ∀ (f k : Nat) (j : Bool) (ts : List Tok), s.size - k = f → k ≤ s.size → toksAt ((By s).drop k) j = some ts →
    (∀ t ∈ ts, t.1 = 49 → ∀ r, t.2 = 48 :: r → digN r = 0) →
    (ts = [] ∧ ∀ i, k ≤ i → i < s.size → blI (ru s i) = true) ∨
    ∃ t ts' a n j', ts = t :: ts' ∧ k ≤ a ∧ a < n ∧ n ≤ s.size ∧ (∀ i, k ≤ i → i < a → blI (ru s i) = true) ∧ blI (ru s a) = false ∧ t.2 = txt s a n ∧ TWay s a n ∧ toksAt ((By s).drop n) j' = some ts' := by
  intro f
  induction f with
  | zero =>
    intro k j ts hf hk h hz
    rw [drop_all s k (by omega), toksAt_nil] at h
    exact .inl ⟨(Option.some.inj h).symm, fun i _ _ => by omega⟩
  | succ f ih =>
    intro k j ts hf hk h hz
    have hks : k < s.size := by omega
    have hd := drop_list s k hks
    have hru := ru_lt hks
    change toksAt (s.data.toList.drop k) j = some ts at h
    have htxt : ∀ m, (s[k] :: s.data.toList.drop (k + 1)).take m = txt s k (k + m) := fun m => by unfold txt; rw [← hd, Nat.add_sub_cancel_left]
    have hdrop : ∀ m, (s[k] :: s.data.toList.drop (k + 1)).drop m = s.data.toList.drop (k + m) := fun m => by rw [← hd, List.drop_drop]
    have hlen : (s[k] :: s.data.toList.drop (k + 1)).length = s.size - k := by rw [← hd, List.length_drop, size_list]
    rw [hd] at h
    have hnb : ¬ (s[k] = 32 ∨ s[k] = 9 ∨ s[k] = 10 ∨ s[k] = 13) → blI (ru s k) = false := by
      intro hn
      rw [hru]
      unfold blI
      simp only [Bool.or_eq_false_iff, beq_eq_false_iff_ne, ne_eq]
      simp only [byte_eq] at hn
      have e1 : ((32 : UInt8).toNat : Int) = 32 := rfl
      have e2 : ((9 : UInt8).toNat : Int) = 9 := rfl
      have e3 : ((10 : UInt8).toNat : Int) = 10 := rfl
      have e4 : ((13 : UInt8).toNat : Int) = 13 := rfl
      rw [e1, e2, e3, e4] at hn
      omega
    rcases byte_view s[k] with ⟨h1, h2⟩ | ⟨h1, h2, h3⟩ | ⟨h1, h2⟩ | ⟨_, _, h1, h2⟩
    · rw [toksAt_blank h1] at h
      have hb : blI (ru s k) = true := by rw [hru]; unfold blI; simp; omega
      rcases ih (k + 1) false ts (by omega) (by omega) h hz with ⟨e, hall⟩ | ⟨t, ts', a, n, j', e, g1, g2, g3, g4, g5⟩
      · refine .inl ⟨e, fun i hi1 hi2 => ?_⟩
        rcases Nat.lt_or_ge k i with hi | hi
        · exact hall i hi hi2
        · rw [show i = k from by omega]; exact hb
      · refine .inr ⟨t, ts', a, n, j', e, by omega, g2, g3, fun i hi1 hi2 => ?_, g5⟩
        rcases Nat.lt_or_ge k i with hi | hi
        · exact g4 i hi hi2
        · rw [show i = k from by omega]; exact hb
    · rw [toksAt_sign h1, if_neg (fun e => h3 e.1)] at h
      obtain ⟨ts', e1, e2⟩ := Option.map_eq_some_iff.1 h
      refine .inr ⟨_, ts', k, k + 1, false, e2.symm, Nat.le_refl _, by omega, hks, fun i _ _ => by omega, hnb (by rcases h1 with e | e | e | e <;> rw [e] <;> decide), ?_, .sign (by rw [hru]; omega) rfl, e1⟩
      rw [← htxt 1]; rfl
    · rw [toksAt_sign (.inr (.inr (.inr h1)))] at h
      split at h
      · exact absurd h (by simp)
      obtain ⟨ts', e1, e2⟩ := Option.map_eq_some_iff.1 h
      refine .inr ⟨_, ts', k, k + 1, false, e2.symm, Nat.le_refl _, by omega, hks, fun i _ _ => by omega, hnb (by rw [h1]; decide), ?_, .sign (by rw [hru]; omega) rfl, e1⟩
      rw [← htxt 1]; rfl
    · by_cases hl : isLet s[k] = true
      · rw [toksAt_word hl] at h
        split at h
        · exact absurd h (by simp)
        obtain ⟨ts', e1, e2⟩ := Option.map_eq_some_iff.1 h
        rw [hdrop] at e1
        have hp := letN_pos (r := s.data.toList.drop (k + 1)) hl
        have hle := letN_le (s[k] :: s.data.toList.drop (k + 1))
        rw [hlen] at hle
        have hrun := run_let (s := s) _ k rfl
        change ∀ j, k ≤ j → j < k + letN (s.data.toList.drop k) → _ at hrun
        rw [hd] at hrun
        generalize letN (s[k] :: s.data.toList.drop (k + 1)) = m at *
        have hT := term_of e1
        refine .inr ⟨_, ts', k, k + m, true, e2.symm, Nat.le_refl _, by omega, by omega, fun i _ _ => by omega, hnb h1, htxt m, ?_, e1⟩
        refine .word ?_ (fun j hj1 hj2 => ?_) (hT.idI 1)
        · unfold idI; rw [hrun k (Nat.le_refl _) (by omega)]; simp
        · unfold idI; rw [hrun j (by omega) hj2]; simp
      · rw [toksAt_num h1 h2 hl] at h
        split at h
        · exact absurd h (by simp)
        rename_i hn
        obtain ⟨ts', e1, e2⟩ := Option.map_eq_some_iff.1 h
        rw [hdrop] at e1
        have hle := decN_le (s[k] :: s.data.toList.drop (k + 1))
        rw [hlen] at hle
        have hp : 0 < decN (s[k] :: s.data.toList.drop (k + 1)) := by
          rcases Nat.eq_zero_or_pos (decN (s[k] :: s.data.toList.drop (k + 1))) with e | e
          · exact absurd (.inl e) hn
          · exact e
        have hT := term_of e1
        have hz48 : ru s k = 48 → digN (s.data.toList.drop (k + 1)) = 0 := by
          intro h48
          have hc : s[k] = 48 := (byte_eq _ _).2 (by rw [← hru, h48]; rfl)
          rcases Nat.eq_zero_or_pos (digN (s.data.toList.drop (k + 1))) with e | e
          · exact e
          · exfalso
            cases hr : s.data.toList.drop (k + 1) with
            | nil => rw [hr, digN] at e; omega
            | cons d r2 =>
              rw [hr, digN] at e
              have hdig : isDig d = true := by
                split at e
                · assumption
                · omega
              have hge := decN_ge (l := s[k] :: s.data.toList.drop (k + 1)) (by rw [digN, hc, if_pos (by decide)]; omega)
              rw [hr, digN, hc, if_pos (by decide), digN, if_pos hdig] at hge
              have := hz _ (by rw [← e2]; exact List.mem_cons_self ..) rfl ((d :: r2).take (decN (s[k] :: s.data.toList.drop (k + 1)) - 1)) (by
                show (s[k] :: s.data.toList.drop (k + 1)).take (decN (s[k] :: s.data.toList.drop (k + 1))) = _
                rw [hr, hc]
                obtain ⟨m, hm⟩ : ∃ m, decN (48 :: d :: r2) = m + 1 := ⟨decN (48 :: d :: r2) - 1, by omega⟩
                rw [hm, List.take_succ_cons]
                rfl)
              rw [hr, hc] at this
              obtain ⟨m, hm⟩ : ∃ m, decN (48 :: d :: r2) - 1 = m + 1 := ⟨decN (48 :: d :: r2) - 2, by omega⟩
              rw [hm, List.take_succ_cons, digN, if_pos hdig] at this
              omega
        refine .inr ⟨_, ts', k, k + decN (s[k] :: s.data.toList.drop (k + 1)), true, e2.symm, Nat.le_refl _, by omega, by omega, fun i _ _ => by omega, hnb h1, htxt _, num_way (by rw [hd]; exact hp) (by rw [hd]) hT hz48, e1⟩
end Go.Proofs.YtadpeebcombjnaaGreatDoor
