/- Plain functions on lists of bytes, and small lemmas on them: no program in sight. -/
import Derived.Lib.Strings
namespace Go.Proofs.YtadpeebcombjnaaGreatDoor

/-- A decimal digit. -/
def isDig (c : UInt8) : Bool := 48 ≤ c && c ≤ 57
/-- A letter of ASCII. -/
def isLet (c : UInt8) : Bool := (97 ≤ c && c ≤ 122) || (65 ≤ c && c ≤ 90)
/-- How many digits stand at the beginning. -/
def digN : List UInt8 → Nat
  | [] => 0
  | c :: l => if isDig c then digN l + 1 else 0
/-- How many letters stand at the beginning. -/
def letN : List UInt8 → Nat
  | [] => 0
  | c :: l => if isLet c then letN l + 1 else 0

theorem isDig_iff (c : UInt8) : isDig c = true ↔ 48 ≤ (c.toNat : Int) ∧ (c.toNat : Int) ≤ 57 := by
  unfold isDig
  simp only [Bool.and_eq_true, decide_eq_true_eq, UInt8.le_iff_toNat_le]
  show (48 ≤ c.toNat ∧ c.toNat ≤ 57) ↔ _
  omega
theorem isLet_iff (c : UInt8) : isLet c = true ↔ (97 ≤ (c.toNat : Int) ∧ (c.toNat : Int) ≤ 122) ∨ (65 ≤ (c.toNat : Int) ∧ (c.toNat : Int) ≤ 90) := by
  unfold isLet
  simp only [Bool.or_eq_true, Bool.and_eq_true, decide_eq_true_eq, UInt8.le_iff_toNat_le]
  show (97 ≤ c.toNat ∧ c.toNat ≤ 122 ∨ 65 ≤ c.toNat ∧ c.toNat ≤ 90) ↔ _
  omega
theorem size_list (s : ByteArray) : s.data.toList.length = s.size := Array.length_toList
theorem get_list (s : ByteArray) (k : Nat) (h : k < s.size) : s.data.toList[k]'(by rw [size_list]; exact h) = s[k] := rfl
theorem drop_list (s : ByteArray) (k : Nat) (h : k < s.size) : s.data.toList.drop k = s[k] :: s.data.toList.drop (k + 1) := by
  rw [List.drop_eq_getElem_cons (by rw [size_list]; exact h), get_list s k h]
theorem drop_all (s : ByteArray) (k : Nat) (h : s.size ≤ k) : s.data.toList.drop k = [] := List.drop_eq_nil_of_le (by rw [size_list]; exact h)
theorem digN_le (l : List UInt8) : digN l ≤ l.length := by
  induction l with
  | nil => exact Nat.le_refl _
  | cons c l ih => unfold digN; split <;> simp <;> omega
theorem letN_le (l : List UInt8) : letN l ≤ l.length := by
  induction l with
  | nil => exact Nat.le_refl _
  | cons c l ih => unfold letN; split <;> simp <;> omega

/-- The end of an exponent that begins at place n, if one does; else n. -/
def expN (l : List UInt8) (n : Nat) : Nat :=
  match l.drop n with
  | c :: r =>
    if c = 101 ∨ c = 69 then
      let at_ := match r with | d :: _ => if d = 43 ∨ d = 45 then n + 2 else n + 1 | [] => n + 1
      if 0 < digN (l.drop at_) then at_ + digN (l.drop at_) else n
    else n
  | [] => n
/-- The end of a mantissa; 0 if there is none. -/
def manN (l : List UInt8) : Nat :=
  match l.drop (digN l) with
  | c :: r => if c = 46 then (if digN l + digN r = 0 then 0 else digN l + 1 + digN r) else digN l
  | [] => digN l
/-- How many bytes at the beginning are a decimal without a sign. -/
def decN (l : List UInt8) : Nat := if manN l = 0 then 0 else expN l (manN l)

theorem byte_eq (c d : UInt8) : c = d ↔ (c.toNat : Int) = (d.toNat : Int) := by
  rw [← UInt8.toNat_inj]; omega
theorem extract_list (s : ByteArray) (i : Nat) : (s.extract i s.size).data.toList = s.data.toList.drop i := by
  rw [Lib.extract_data, List.take_of_length_le (by rw [List.length_drop, size_list]; exact Nat.le_refl _)]
theorem extract_size (s : ByteArray) (i : Nat) : (s.extract i s.size).size = s.size - i := by simp [ByteArray.size_extract]
theorem manN_le (l : List UInt8) : manN l ≤ l.length := by
  unfold manN
  have h := digN_le l
  split
  · rename_i c r e
    have hl : l.length = digN l + (r.length + 1) := by
      have := congrArg List.length e
      simp at this; omega
    have h2 := digN_le r
    split
    · split <;> omega
    · omega
  · omega
theorem t_eq {c d : UInt8} {n : Int} (h : c = d) (hn : (d.toNat : Int) = n) : ((c.toNat : Int) == n) = true := by
  rw [h, hn]; simp
theorem f_eq {c d : UInt8} {n : Int} (h : ¬ c = d) (hn : (d.toNat : Int) = n) : ((c.toNat : Int) == n) = false := by
  rw [byte_eq, hn] at h; simpa using h
theorem dot_view (s : ByteArray) :
    (¬ digN s.data.toList < s.size ∧ manN s.data.toList = digN s.data.toList) ∨
    (∃ h : digN s.data.toList < s.size, ((s[digN s.data.toList].toNat : Int) == 46) = true ∧
      manN s.data.toList = if digN s.data.toList + digN (s.data.toList.drop (digN s.data.toList + 1)) = 0 then 0 else digN s.data.toList + 1 + digN (s.data.toList.drop (digN s.data.toList + 1))) ∨
    (∃ h : digN s.data.toList < s.size, ((s[digN s.data.toList].toNat : Int) == 46) = false ∧ manN s.data.toList = digN s.data.toList) := by
  by_cases h : digN s.data.toList < s.size
  · have hd := drop_list s _ h
    by_cases h2 : s[digN s.data.toList] = 46
    · exact .inr (.inl ⟨h, t_eq h2 rfl, by unfold manN; rw [hd]; simp only [if_pos h2]⟩)
    · exact .inr (.inr ⟨h, f_eq h2 rfl, by unfold manN; rw [hd]; simp only [if_neg h2]⟩)
  · exact .inl ⟨h, by unfold manN; rw [drop_all s _ (by omega)]⟩
theorem exp_view (s : ByteArray) (n : Nat) :
    (¬ n < s.size ∧ expN s.data.toList n = n) ∨
    (∃ h : n < s.size, ((s[n].toNat : Int) == 101) = false ∧ ((s[n].toNat : Int) == 69) = false ∧ expN s.data.toList n = n) ∨
    (∃ h : n < s.size, (((s[n].toNat : Int) == 101) = true ∨ (((s[n].toNat : Int) == 101) = false ∧ ((s[n].toNat : Int) == 69) = true)) ∧
      ((¬ n + 1 < s.size ∧ expN s.data.toList n = if 0 < digN (s.data.toList.drop (n + 1)) then n + 1 + digN (s.data.toList.drop (n + 1)) else n) ∨
       (∃ h' : n + 1 < s.size, ((s[n + 1].toNat : Int) == 43) = false ∧ ((s[n + 1].toNat : Int) == 45) = false ∧ expN s.data.toList n = if 0 < digN (s.data.toList.drop (n + 1)) then n + 1 + digN (s.data.toList.drop (n + 1)) else n) ∨
       (∃ h' : n + 1 < s.size, (((s[n + 1].toNat : Int) == 43) = true ∨ (((s[n + 1].toNat : Int) == 43) = false ∧ ((s[n + 1].toNat : Int) == 45) = true)) ∧ expN s.data.toList n = if 0 < digN (s.data.toList.drop (n + 1 + 1)) then n + 1 + 1 + digN (s.data.toList.drop (n + 1 + 1)) else n))) := by
  by_cases h : n < s.size
  · have hd := drop_list s _ h
    by_cases h2 : s[n] = 101 ∨ s[n] = 69
    · refine .inr (.inr ⟨h, ?_, ?_⟩)
      · by_cases h3 : s[n] = 101
        · exact .inl (t_eq h3 rfl)
        · exact .inr ⟨f_eq h3 rfl, t_eq (h2.resolve_left h3) rfl⟩
      · by_cases h4 : n + 1 < s.size
        · have hd2 := drop_list s _ h4
          by_cases h5 : s[n + 1] = 43 ∨ s[n + 1] = 45
          · refine .inr (.inr ⟨h4, ?_, ?_⟩)
            · by_cases h3 : s[n + 1] = 43
              · exact .inl (t_eq h3 rfl)
              · exact .inr ⟨f_eq h3 rfl, t_eq (h5.resolve_left h3) rfl⟩
            · unfold expN; rw [hd]; simp only [if_pos h2]; rw [hd2]; simp only [if_pos h5]
          · refine .inr (.inl ⟨h4, f_eq (fun e => h5 (.inl e)) rfl, f_eq (fun e => h5 (.inr e)) rfl, ?_⟩)
            unfold expN; rw [hd]; simp only [if_pos h2]; rw [hd2]; simp only [if_neg h5]; rw [hd2]
        · refine .inl ⟨h4, ?_⟩
          unfold expN; rw [hd]; simp only [if_pos h2]; rw [drop_all s (n + 1) (by omega)]; simp only []; rw [drop_all s (n + 1) (by omega)]
    · exact .inr (.inl ⟨h, f_eq (fun e => h2 (.inl e)) rfl, f_eq (fun e => h2 (.inr e)) rfl, by unfold expN; rw [hd]; simp only [if_neg h2]⟩)
  · exact .inl ⟨h, by unfold expN; rw [drop_all s _ (by omega)]⟩

/-- A token: its kind (97 a word, 49 a decimal, else the sign itself) and its bytes. -/
abbrev Tok := UInt8 × List UInt8
/-- The tokens of a text; 'joined': a word or a decimal ends right ahead of it. The number is fuel. -/
def toksF : Nat → List UInt8 → Bool → Option (List Tok)
  | 0, _, _ => none
  | _ + 1, [], _ => some []
  | n + 1, c :: r, j =>
    if c = 32 ∨ c = 9 ∨ c = 10 ∨ c = 13 then toksF n r false
    else if c = 40 ∨ c = 41 ∨ c = 44 ∨ c = 45 then (if c = 45 ∧ j = true then none else (toksF n r false).map (((c, [c]) : Tok) :: ·))
    else if isLet c then (if j = true then none else (toksF n ((c :: r).drop (letN (c :: r))) true).map (((97, (c :: r).take (letN (c :: r))) : Tok) :: ·))
    else (if decN (c :: r) = 0 ∨ j = true then none else (toksF n ((c :: r).drop (decN (c :: r))) true).map (((49, (c :: r).take (decN (c :: r))) : Tok) :: ·))
def toks (l : List UInt8) : Option (List Tok) := toksF (l.length + 1) l false

theorem toksF_mono : ∀ (n m : Nat) (l : List UInt8) (j : Bool), l.length < n → l.length < m → toksF n l j = toksF m l j := by
  intro n
  induction n with
  | zero => intro m l j h; omega
  | succ n ih =>
    intro m l j hn hm
    obtain ⟨m, rfl⟩ : ∃ k, m = k + 1 := ⟨m - 1, by omega⟩
    cases l with
    | nil => rfl
    | cons c r =>
      have e1 : ∀ j, toksF n r j = toksF m r j := fun j => ih m r j (by simp at hn; omega) (by simp at hm; omega)
      have e2 : ∀ k j, 0 < k → toksF n ((c :: r).drop k) j = toksF m ((c :: r).drop k) j := fun k j hk => ih m _ j (by simp at hn ⊢; omega) (by simp at hm ⊢; omega)
      simp only [toksF]
      rw [e1 false]
      by_cases hl : isLet c = true
      · rw [e2 (letN (c :: r)) true (by simp [letN, hl])]
        by_cases hd : decN (c :: r) = 0
        · simp only [hd, true_or, if_true]
        · rw [e2 (decN (c :: r)) true (by omega)]
      · simp only [hl]
        by_cases hd : decN (c :: r) = 0
        · simp only [hd, true_or, if_true, if_false, Bool.false_eq_true]
        · rw [e2 (decN (c :: r)) true (by omega)]; rfl
/-- The tokens from a place on, whatever fuel above its length. -/
def toksAt (l : List UInt8) (j : Bool) : Option (List Tok) := toksF (l.length + 1) l j
theorem toksAt_nil (j : Bool) : toksAt [] j = some [] := rfl
theorem toksAt_blank {c : UInt8} {r : List UInt8} {j : Bool} (h : c = 32 ∨ c = 9 ∨ c = 10 ∨ c = 13) : toksAt (c :: r) j = toksAt r false := by
  unfold toksAt; rw [toksF, if_pos h]; rfl
theorem toksAt_sign {c : UInt8} {r : List UInt8} {j : Bool} (h : c = 40 ∨ c = 41 ∨ c = 44 ∨ c = 45) :
    toksAt (c :: r) j = if c = 45 ∧ j = true then none else (toksAt r false).map (((c, [c]) : Tok) :: ·) := by
  unfold toksAt; rw [toksF, if_neg (by rcases h with rfl | rfl | rfl | rfl <;> decide), if_pos h]; rfl
theorem letN_pos {c : UInt8} {r : List UInt8} (h : isLet c = true) : 0 < letN (c :: r) := by simp [letN, h]
theorem not_sign_of_let {c : UInt8} (h : isLet c = true) : ¬ (c = 32 ∨ c = 9 ∨ c = 10 ∨ c = 13) ∧ ¬ (c = 40 ∨ c = 41 ∨ c = 44 ∨ c = 45) := by
  constructor <;> (intro hc; rcases hc with rfl | rfl | rfl | rfl <;> revert h <;> decide)
theorem toksAt_word {c : UInt8} {r : List UInt8} {j : Bool} (h : isLet c = true) :
    toksAt (c :: r) j = if j = true then none else (toksAt ((c :: r).drop (letN (c :: r))) true).map (((97, (c :: r).take (letN (c :: r))) : Tok) :: ·) := by
  have hp := letN_pos (r := r) h
  obtain ⟨h1, h2⟩ := not_sign_of_let h
  unfold toksAt
  rw [toksF, if_neg h1, if_neg h2, if_pos h]
  congr 1
  rw [toksF_mono (c :: r).length (((c :: r).drop (letN (c :: r))).length + 1) _ _ (by simp; omega) (by omega)]
theorem toksAt_num {c : UInt8} {r : List UInt8} {j : Bool} (h1 : ¬ (c = 32 ∨ c = 9 ∨ c = 10 ∨ c = 13)) (h2 : ¬ (c = 40 ∨ c = 41 ∨ c = 44 ∨ c = 45)) (h : ¬ isLet c = true) :
    toksAt (c :: r) j = if decN (c :: r) = 0 ∨ j = true then none else (toksAt ((c :: r).drop (decN (c :: r))) true).map (((49, (c :: r).take (decN (c :: r))) : Tok) :: ·) := by
  unfold toksAt
  rw [toksF, if_neg h1, if_neg h2, if_neg h]
  by_cases hd : decN (c :: r) = 0
  · rw [if_pos (.inl hd), if_pos (.inl hd)]
  · congr 1
    rw [toksF_mono (c :: r).length (((c :: r).drop (decN (c :: r))).length + 1) _ _ (by simp; omega) (by omega)]

theorem i_eq {c d : UInt8} {n : Int} (h : c = d) (hn : (d.toNat : Int) = n) : (c.toNat : Int) = n := by rw [h, hn]
theorem byte_view (c : UInt8) :
    ((c = 32 ∨ c = 9 ∨ c = 10 ∨ c = 13) ∧ ((c.toNat : Int) = 32 ∨ (c.toNat : Int) = 9 ∨ (c.toNat : Int) = 10 ∨ (c.toNat : Int) = 13)) ∨
    ((c = 40 ∨ c = 41 ∨ c = 44 ∨ c = 45) ∧ ((c.toNat : Int) = 40 ∨ (c.toNat : Int) = 41 ∨ (c.toNat : Int) = 44) ∧ c ≠ 45) ∨
    (c = 45 ∧ (c.toNat : Int) = 45) ∨
    ((((c.toNat : Int) == 32) = false ∧ ((c.toNat : Int) == 9) = false ∧ ((c.toNat : Int) == 10) = false ∧ ((c.toNat : Int) == 13) = false) ∧
     (((c.toNat : Int) == 40) = false ∧ ((c.toNat : Int) == 41) = false ∧ ((c.toNat : Int) == 44) = false ∧ ((c.toNat : Int) == 45) = false) ∧
     ¬ (c = 32 ∨ c = 9 ∨ c = 10 ∨ c = 13) ∧ ¬ (c = 40 ∨ c = 41 ∨ c = 44 ∨ c = 45)) := by
  by_cases h1 : c = 32 ∨ c = 9 ∨ c = 10 ∨ c = 13
  · refine .inl ⟨h1, ?_⟩
    rcases h1 with h | h | h | h
    · exact .inl (i_eq h rfl)
    · exact .inr (.inl (i_eq h rfl))
    · exact .inr (.inr (.inl (i_eq h rfl)))
    · exact .inr (.inr (.inr (i_eq h rfl)))
  · by_cases h2 : c = 45
    · exact .inr (.inr (.inl ⟨h2, i_eq h2 rfl⟩))
    · by_cases h3 : c = 40 ∨ c = 41 ∨ c = 44 ∨ c = 45
      · refine .inr (.inl ⟨h3, ?_, h2⟩)
        rcases h3 with h | h | h | h
        · exact .inl (i_eq h rfl)
        · exact .inr (.inl (i_eq h rfl))
        · exact .inr (.inr (i_eq h rfl))
        · exact absurd h h2
      · refine .inr (.inr (.inr ⟨?_, ?_, h1, h3⟩))
        · exact ⟨f_eq (fun e => h1 (.inl e)) rfl, f_eq (fun e => h1 (.inr (.inl e))) rfl, f_eq (fun e => h1 (.inr (.inr (.inl e)))) rfl, f_eq (fun e => h1 (.inr (.inr (.inr e)))) rfl⟩
        · exact ⟨f_eq (fun e => h3 (.inl e)) rfl, f_eq (fun e => h3 (.inr (.inl e))) rfl, f_eq (fun e => h3 (.inr (.inr (.inl e)))) rfl, f_eq (fun e => h3 (.inr (.inr (.inr e)))) rfl⟩
theorem extract_mid (s : ByteArray) (a b : Nat) : s.extract a b = ⟨((s.data.toList.drop a).take (b - a)).toArray⟩ := by
  have h := Lib.extract_data s a b
  generalize s.extract a b = x at h
  obtain ⟨⟨l⟩⟩ := x
  simp only at h
  rw [h]
theorem decN_le (l : List UInt8) : decN l ≤ l.length := by
  unfold decN
  split
  · omega
  · unfold expN
    have hm := manN_le l
    split
    · rename_i c r e
      have hl : l.length = manN l + (r.length + 1) := by
        have := congrArg List.length e
        simp at this; omega
      split
      · have key : ∀ k, 0 < digN (l.drop k) → k + digN (l.drop k) ≤ l.length := by
          intro k hk
          have h := digN_le (l.drop k)
          rw [List.length_drop] at h
          omega
        have key2 : ∀ k, (if 0 < digN (l.drop k) then k + digN (l.drop k) else manN l) ≤ l.length := by
          intro k
          split
          · exact key _ ‹_›
          · omega
        exact key2 _
      · omega
    · omega
theorem map_nil_app (o : Option (List Tok)) : o.map (([] : List Tok) ++ ·) = o := by cases o <;> rfl
theorem map_snoc (o : Option (List Tok)) (out : List Tok) (t : Tok) : (o.map (t :: ·)).map (out ++ ·) = o.map ((out ++ [t]) ++ ·) := by cases o <;> simp
end Go.Proofs.YtadpeebcombjnaaGreatDoor
namespace Go.Proofs.YtadpeebcombjnaaGreatDoor
set_option maxRecDepth 100000
/-- A byte that may stand behind a word or a decimal. -/
def tmB (c : UInt8) : Prop := c = 9 ∨ c = 10 ∨ c = 13 ∨ c = 32 ∨ c = 40 ∨ c = 41 ∨ c = 44
/-- Nothing follows, or such a byte. -/
def Clear (r : List UInt8) : Prop := ∀ c r', r = c :: r' → tmB c
theorem tmB.dig {c : UInt8} (h : tmB c) : isDig c = false ∧ isLet c = false ∧ c ≠ 46 ∧ c ≠ 101 ∧ c ≠ 69 ∧ c ≠ 43 ∧ c ≠ 45 := by
  rcases h with rfl | rfl | rfl | rfl | rfl | rfl | rfl <;> decide
theorem digN_clear {r : List UInt8} (h : Clear r) : digN r = 0 := by
  cases r with
  | nil => rfl
  | cons c r => unfold digN; rw [(h c r rfl).dig.1]; rfl
theorem letN_clear {r : List UInt8} (h : Clear r) : letN r = 0 := by
  cases r with
  | nil => rfl
  | cons c r => unfold letN; rw [(h c r rfl).dig.2.1]; rfl
theorem digN_app (l : List UInt8) {r : List UInt8} (h : Clear r) : digN (l ++ r) = digN l := by
  induction l with
  | nil => exact digN_clear h
  | cons c l ih => rw [List.cons_append, digN, digN, ih]
theorem letN_app (l : List UInt8) {r : List UInt8} (h : Clear r) : letN (l ++ r) = letN l := by
  induction l with
  | nil => exact letN_clear h
  | cons c l ih => rw [List.cons_append, letN, letN, ih]
theorem drop_app {l r : List UInt8} {n : Nat} (h : n ≤ l.length) : (l ++ r).drop n = l.drop n ++ r := by
  rw [List.drop_append, show n - l.length = 0 from by omega, List.drop_zero]
theorem manN_app (l : List UInt8) {r : List UInt8} (h : Clear r) : manN (l ++ r) = manN l := by
  unfold manN
  rw [digN_app l h, drop_app (digN_le l)]
  cases hd : l.drop (digN l) with
  | nil =>
    rw [List.nil_append]
    cases r with
    | nil => rfl
    | cons c r => simp only; rw [if_neg (h c r rfl).dig.2.2.1]
  | cons c l' =>
    rw [List.cons_append]
    simp only
    rw [digN_app l' h]
theorem expN_app (l : List UInt8) {r : List UInt8} (h : Clear r) (n : Nat) (hn : n ≤ l.length) : expN (l ++ r) n = expN l n := by
  unfold expN
  rw [drop_app hn]
  cases hd : l.drop n with
  | nil =>
    rw [List.nil_append]
    cases r with
    | nil => rfl
    | cons c r => simp only; rw [if_neg (by have := (h c r rfl).dig; intro hc; rcases hc with e | e; exact this.2.2.2.1 e; exact this.2.2.2.2.1 e)]
  | cons c l' =>
    have hl : l.length = n + (l'.length + 1) := by
      have := congrArg List.length hd
      simp at this; omega
    have hdr : ∀ k, k ≤ l.length → digN ((l ++ r).drop k) = digN (l.drop k) := fun k hk => by rw [drop_app hk, digN_app _ h]
    rw [List.cons_append]
    simp only
    by_cases hc : c = 101 ∨ c = 69
    · rw [if_pos hc, if_pos hc]
      cases l' with
      | nil =>
        rw [List.nil_append]
        cases r with
        | nil => simp
        | cons d r2 =>
          have hnd : ¬ (d = 43 ∨ d = 45) := by
            have := (h d r2 rfl).dig
            intro hc
            rcases hc with e | e
            · exact this.2.2.2.2.2.1 e
            · exact this.2.2.2.2.2.2 e
          simp only [if_neg hnd]
          rw [hdr _ (by simp at hl; omega)]
      | cons d l2 =>
        rw [List.cons_append]
        simp only
        by_cases hs : d = 43 ∨ d = 45
        · simp only [if_pos hs]
          rw [hdr _ (by simp at hl; omega)]
        · simp only [if_neg hs]
          rw [hdr _ (by simp at hl; omega)]
    · rw [if_neg hc, if_neg hc]
theorem decN_app (l : List UInt8) {r : List UInt8} (h : Clear r) : decN (l ++ r) = decN l := by
  unfold decN
  rw [manN_app l h, expN_app l h _ (manN_le l)]
/-- A token as the text's tokens are: a word of letters, a decimal, or a sign. -/
inductive Good : Tok → Prop where
  | word {l : List UInt8} (h0 : l ≠ []) (h : letN l = l.length) : Good (97, l)
  | num {l : List UInt8} (h0 : l ≠ []) (h : decN l = l.length) (h1 : ∀ c r, l = c :: r → ¬ (c = 32 ∨ c = 9 ∨ c = 10 ∨ c = 13) ∧ ¬ (c = 40 ∨ c = 41 ∨ c = 44 ∨ c = 45) ∧ ¬ isLet c = true) : Good (49, l)
  | sign {c : UInt8} (h : c = 40 ∨ c = 41 ∨ c = 44 ∨ c = 45) : Good (c, [c])
theorem clear_of {l : List UInt8} {ts : List Tok} (h : toksAt l true = some ts) : Clear l := by
  rintro c r rfl
  rcases byte_view c with ⟨h1, h2⟩ | ⟨h1, h2, h3⟩ | ⟨h1, h2⟩ | ⟨_, _, h1, h2⟩
  · unfold tmB; rcases h1 with e | e | e | e <;> simp [e]
  · unfold tmB; rcases h1 with e | e | e | e
    · simp [e]
    · simp [e]
    · simp [e]
    · exact absurd e h3
  · rw [toksAt_sign (.inr (.inr (.inr h1))), if_pos ⟨h1, rfl⟩] at h
    exact absurd h (by simp)
  · by_cases hl : isLet c = true
    · rw [toksAt_word hl, if_pos rfl] at h
      exact absurd h (by simp)
    · rw [toksAt_num h1 h2 hl, if_pos (.inr rfl)] at h
      exact absurd h (by simp)
theorem good_of : ∀ (f : Nat) (l : List UInt8) (j : Bool) (ts : List Tok), l.length ≤ f → toksAt l j = some ts → ∀ t ∈ ts, Good t := by
  intro f
  induction f with
  | zero =>
    intro l j ts hl h t ht
    have : l = [] := List.length_eq_zero_iff.1 (by omega)
    rw [this, toksAt_nil] at h
    rw [← Option.some.inj h] at ht
    exact absurd ht (by simp)
  | succ f ih =>
    intro l j ts hl h t ht
    cases l with
    | nil =>
      rw [toksAt_nil] at h
      rw [← Option.some.inj h] at ht
      exact absurd ht (by simp)
    | cons c r =>
      have hr : r.length ≤ f := by simp at hl; omega
      rcases byte_view c with ⟨h1, h2⟩ | ⟨h1, h2, h3⟩ | ⟨h1, h2⟩ | ⟨_, _, h1, h2⟩
      · rw [toksAt_blank h1] at h
        exact ih r false ts hr h t ht
      · rw [toksAt_sign h1, if_neg (fun e => h3 e.1)] at h
        obtain ⟨ts', e1, e2⟩ := Option.map_eq_some_iff.1 h
        rw [← e2] at ht
        rcases List.mem_cons.1 ht with e | e
        · rw [e]; exact .sign h1
        · exact ih r false ts' hr e1 t e
      · rw [toksAt_sign (.inr (.inr (.inr h1)))] at h
        split at h
        · exact absurd h (by simp)
        obtain ⟨ts', e1, e2⟩ := Option.map_eq_some_iff.1 h
        rw [← e2] at ht
        rcases List.mem_cons.1 ht with e | e
        · rw [e]; exact .sign (.inr (.inr (.inr h1)))
        · exact ih r false ts' hr e1 t e
      · by_cases hw : isLet c = true
        · rw [toksAt_word hw] at h
          split at h
          · exact absurd h (by simp)
          obtain ⟨ts', e1, e2⟩ := Option.map_eq_some_iff.1 h
          have hp := letN_pos (r := r) hw
          have hle := letN_le (c :: r)
          rw [← e2] at ht
          rcases List.mem_cons.1 ht with e | e
          · rw [e]
            refine .word (by intro e; have := congrArg List.length e; rw [List.length_take, List.length_nil] at this; omega) ?_
            have e3 := letN_app ((c :: r).take (letN (c :: r))) (clear_of e1)
            rw [List.take_append_drop] at e3
            rw [← e3, List.length_take]; omega
          · exact ih _ true ts' (by rw [List.length_drop]; omega) e1 t e
        · rw [toksAt_num h1 h2 hw] at h
          split at h
          · exact absurd h (by simp)
          rename_i hn
          obtain ⟨ts', e1, e2⟩ := Option.map_eq_some_iff.1 h
          have hp : 0 < decN (c :: r) := by
            rcases Nat.eq_zero_or_pos (decN (c :: r)) with e | e
            · exact absurd (.inl e) hn
            · exact e
          have hle := decN_le (c :: r)
          rw [← e2] at ht
          rcases List.mem_cons.1 ht with e | e
          · rw [e]
            refine .num (by intro e; have := congrArg List.length e; rw [List.length_take, List.length_nil] at this; omega) ?_ ?_
            · have e3 := decN_app ((c :: r).take (decN (c :: r))) (clear_of e1)
              rw [List.take_append_drop] at e3
              rw [← e3, List.length_take]; omega
            · intro d r' e4
              obtain ⟨m, hm⟩ : ∃ m, decN (c :: r) = m + 1 := ⟨decN (c :: r) - 1, by omega⟩
              rw [hm, List.take_succ_cons] at e4
              injection e4 with e5 _
              rw [← e5]; exact ⟨h1, h2, hw⟩
          · exact ih _ true ts' (by rw [List.length_drop]; omega) e1 t e
/-- Tokens as a text, a blank behind each. -/
def spaced (ts : List Tok) : List UInt8 := ts.flatMap fun t => t.2 ++ [32]
theorem retok : ∀ (ts : List Tok), (∀ t ∈ ts, Good t) → toksAt (spaced ts) false = some ts := by
  intro ts
  induction ts with
  | nil => intro _; rfl
  | cons t ts ih =>
    intro h
    have h1 := ih fun u hu => h u (List.mem_cons_of_mem _ hu)
    have e : spaced (t :: ts) = t.2 ++ 32 :: spaced ts := by simp [spaced]
    have hc : Clear (32 :: spaced ts) := by
      rintro c r e
      injection e with e _
      unfold tmB; simp [← e]
    have hb : ∀ j, toksAt (32 :: spaced ts) j = some ts := fun j => by rw [toksAt_blank (.inl rfl)]; exact h1
    have hg := h t (List.mem_cons_self ..)
    rw [e]
    cases hg with
    | word h0 hl =>
      rename_i l
      obtain ⟨c, r, rfl⟩ := List.exists_cons_of_ne_nil h0
      have hw : isLet c = true := by
        unfold letN at hl
        split at hl
        · assumption
        · simp at hl
      have e2 : letN ((c :: r) ++ 32 :: spaced ts) = (c :: r).length := by rw [letN_app _ hc, hl]
      show toksAt (c :: (r ++ 32 :: spaced ts)) false = _
      rw [toksAt_word hw, if_neg (by decide)]
      change ((toksAt (((c :: r) ++ 32 :: spaced ts).drop (letN ((c :: r) ++ 32 :: spaced ts))) true).map fun x => ((97, ((c :: r) ++ 32 :: spaced ts).take (letN ((c :: r) ++ 32 :: spaced ts))) : Tok) :: x) = _
      rw [e2, List.drop_left, List.take_left, hb]
      rfl
    | num h0 hl hn =>
      rename_i l
      obtain ⟨c, r, rfl⟩ := List.exists_cons_of_ne_nil h0
      obtain ⟨n1, n2, n3⟩ := hn c r rfl
      have e2 : decN ((c :: r) ++ 32 :: spaced ts) = (c :: r).length := by rw [decN_app _ hc, hl]
      show toksAt (c :: (r ++ 32 :: spaced ts)) false = _
      rw [toksAt_num n1 n2 n3]
      change (if decN ((c :: r) ++ 32 :: spaced ts) = 0 ∨ false = true then none else (toksAt (((c :: r) ++ 32 :: spaced ts).drop (decN ((c :: r) ++ 32 :: spaced ts))) true).map fun x => ((49, ((c :: r) ++ 32 :: spaced ts).take (decN ((c :: r) ++ 32 :: spaced ts))) : Tok) :: x) = _
      rw [e2, if_neg (by simp), List.drop_left, List.take_left, hb]
      rfl
    | sign hs =>
      rename_i c
      show toksAt (c :: 32 :: spaced ts) false = _
      rw [toksAt_sign hs, if_neg (by simp), hb]
      rfl
end Go.Proofs.YtadpeebcombjnaaGreatDoor
namespace Go.Proofs.YtadpeebcombjnaaGreatDoor
set_option maxRecDepth 100000
/-- The word of a 64 bit float is of a finite number. -/
def finW (x : Nat) : Bool := decide (x % 2 ^ 63 < 2047 * 2 ^ 52)
/-- The word with the other sign. -/
def flipW (x : Nat) : Nat := if x < 2 ^ 63 then x + 2 ^ 63 else x - 2 ^ 63
def EMP : List UInt8 := [69, 77, 80, 84, 89]
/-- What a token does to the depth. -/
def dep (l : List UInt8) : Int := if l = [40] then 1 else if l = [41] then -1 else 0
/-- The body at the beginning of a list of tokens. -/
def bodyF : Int → Bool → List Tok → Option (List Tok)
  | _, _, [] => none
  | d, b, t :: ts =>
    if d + dep t.2 = 0 then (if b = true ∨ t.2 = EMP then some [t] else none)
    else (bodyF (d + dep t.2) true ts).map (t :: ·)
section
variable (PF : List UInt8 → Option Nat)
/-- The program's number of a token: a finite one. -/
def PN (t : List UInt8) : Option Nat := (PF t).filter finW
def numP : List Tok → Option (Nat × List Tok)
  | [] => none
  | t :: ts => if t.2 = [45] then (match ts with | [] => none | u :: us => (PN PF u.2).map fun x => (flipW x, us)) else (PN PF t.2).map fun x => (x, ts)
def numsP : Nat → List Tok → Option (List Nat × List Tok)
  | 0, ts => some ([], ts)
  | n + 1, ts => (numP PF ts).bind fun p => (numsP n p.2).map fun q => (p.1 :: q.1, q.2)
def progRead (w : Nat) : List Tok → Option (Option (List Nat))
  | [] => none
  | t :: ts => if t.2 = EMP then some none else if t.2 = [40] then (numsP PF w ts).bind fun p => (match p.2 with | u :: _ => if u.2 = [41] then some (some p.1) else none | [] => none) else none
def numS : List Tok → Option (Nat × List Tok)
  | [] => none
  | t :: ts => if t.1 = 45 then (match ts with | [] => none | u :: us => if u.1 = 49 then (PF (45 :: u.2)).map fun x => (x, us) else none) else if t.1 = 49 then (PF t.2).map fun x => (x, ts) else none
def numsS : Nat → List Tok → Option (List Nat × List Tok)
  | 0, ts => some ([], ts)
  | n + 1, ts => (numS PF ts).bind fun p => (numsS n p.2).map fun q => (p.1 :: q.1, q.2)
def specRead (w : Nat) : List Tok → Option (Option (List Nat))
  | [] => none
  | t :: ts => if t.1 = 97 ∧ t.2 = EMP then (if ts = [] then some none else none) else if t.1 = 40 then (numsS PF w ts).bind fun p => (match p.2 with | u :: us => if u.1 = 41 ∧ us = [] then some (some p.1) else none | [] => none) else none
/-- What the law wants of the reader of numbers. -/
structure NumLaw : Prop where
  fin : ∀ t x, decN t = t.length → t ≠ [] → PF t = some x → finW x = true
  neg : ∀ t, decN t = t.length → t ≠ [] → PF (45 :: t) = (PF t).map flipW
  word : ∀ t, t ≠ [] → letN t = t.length → PN PF t = none
  sign : ∀ c : UInt8, c = 40 ∨ c = 41 ∨ c = 44 ∨ c = 45 → PN PF [c] = none
variable {PF}
theorem word_ne {l : List UInt8} (h0 : l ≠ []) (h : letN l = l.length) : l ≠ [40] ∧ l ≠ [41] ∧ l ≠ [45] := by
  refine ⟨?_, ?_, ?_⟩ <;> (rintro rfl; exact absurd h (by decide))
theorem num_ne {l : List UInt8} (h1 : ∀ c r, l = c :: r → ¬ (c = 32 ∨ c = 9 ∨ c = 10 ∨ c = 13) ∧ ¬ (c = 40 ∨ c = 41 ∨ c = 44 ∨ c = 45) ∧ ¬ isLet c = true) : l ≠ [40] ∧ l ≠ [41] ∧ l ≠ [45] ∧ l ≠ EMP := by
  refine ⟨?_, ?_, ?_, ?_⟩ <;> (rintro rfl)
  · exact (h1 _ _ rfl).2.1 (by decide)
  · exact (h1 _ _ rfl).2.1 (by decide)
  · exact (h1 _ _ rfl).2.1 (by decide)
  · exact (h1 _ _ rfl).2.2 (by decide)
theorem PN_num (H : NumLaw PF) {l : List UInt8} (h0 : l ≠ []) (h : decN l = l.length) : PN PF l = PF l := by
  unfold PN
  cases hp : PF l with
  | none => rfl
  | some x => rw [Option.filter_some, if_pos (H.fin l x h h0 hp)]
theorem num_eq (H : NumLaw PF) (ts : List Tok) (h : ∀ t ∈ ts, Good t) : numP PF ts = numS PF ts := by
  cases ts with
  | nil => rfl
  | cons t ts =>
    have hg := h t (List.mem_cons_self ..)
    have hr := fun u hu => h u (List.mem_cons_of_mem t hu)
    rw [numP.eq_def, numS.eq_def]
    dsimp only
    cases hg with
    | word h0 hl =>
      simp only
      rw [if_neg (word_ne h0 hl).2.2, if_neg (by decide), if_neg (by decide), H.word _ h0 hl]
      rfl
    | num h0 hl h1 =>
      simp only
      rw [if_neg (num_ne h1).2.2.1, if_neg (by decide), if_pos trivial, PN_num H h0 hl]
    | sign hs =>
      rename_i c
      simp only
      by_cases hc : c = 45
      · subst hc
        rw [if_pos rfl, if_pos rfl]
        cases ts with
        | nil => rfl
        | cons u us =>
          have hu := hr u (List.mem_cons_self ..)
          simp only
          cases hu with
          | word h0 hl => rw [if_neg (by simp), H.word _ h0 hl]; rfl
          | num h0 hl h1 => rw [if_pos rfl, PN_num H h0 hl, H.neg _ hl h0, Option.map_map]; rfl
          | sign hs2 => rw [if_neg (by rcases hs2 with rfl | rfl | rfl | rfl <;> decide), H.sign _ hs2]; rfl
      · rw [if_neg (by intro e; injection e with e _; exact hc e), if_neg hc, if_neg (by rcases hs with rfl | rfl | rfl | rfl <;> decide), H.sign _ hs]
        rfl
theorem numP_rest {ts : List Tok} {x : Nat} {r : List Tok} (h : numS PF ts = some (x, r)) : ∃ u, ts = u ++ r ∧ (∀ t ∈ u, t.1 = 45 ∨ t.1 = 49) ∧ ∀ r', numS PF (u ++ r') = some (x, r') := by
  cases ts with
  | nil => exact absurd h (by simp [numS])
  | cons t ts =>
    rw [numS.eq_def] at h
    dsimp only at h
    by_cases h1 : t.1 = 45
    · rw [if_pos h1] at h
      cases ts with
      | nil => exact absurd h (by simp)
      | cons u us =>
        simp only at h
        by_cases h2 : u.1 = 49
        · rw [if_pos h2] at h
          obtain ⟨y, hy, e⟩ := Option.map_eq_some_iff.1 h
          injection e with e1 e2
          subst e1 e2
          refine ⟨[t, u], rfl, by simp [h1, h2], fun r' => ?_⟩
          show numS PF (t :: u :: r') = _
          rw [numS.eq_def]
          dsimp only
          rw [if_pos h1]
          rw [if_pos h2, hy]
          rfl
        · rw [if_neg h2] at h; exact absurd h (by simp)
    · rw [if_neg h1] at h
      by_cases h2 : t.1 = 49
      · rw [if_pos h2] at h
        obtain ⟨y, hy, e⟩ := Option.map_eq_some_iff.1 h
        injection e with e1 e2
        subst e1 e2
        refine ⟨[t], rfl, by simp [h2], fun r' => ?_⟩
        show numS PF (t :: r') = _
        rw [numS.eq_def]
        dsimp only
        rw [if_neg h1, if_pos h2, hy]
        rfl
      · rw [if_neg h2] at h; exact absurd h (by simp)
theorem numsS_rest : ∀ (n : Nat) {ts : List Tok} {xs : List Nat} {r : List Tok}, numsS PF n ts = some (xs, r) → ∃ u, ts = u ++ r ∧ (∀ t ∈ u, t.1 = 45 ∨ t.1 = 49) ∧ ∀ r', numsS PF n (u ++ r') = some (xs, r') := by
  intro n
  induction n with
  | zero =>
    intro ts xs r h
    injection h with h
    injection h with h1 h2
    subst h1 h2
    exact ⟨[], rfl, by simp, fun r' => rfl⟩
  | succ n ih =>
    intro ts xs r h
    rw [numsS] at h
    obtain ⟨⟨x, r1⟩, hx, h⟩ := Option.bind_eq_some_iff.1 h
    obtain ⟨⟨ys, r2⟩, hy, e⟩ := Option.map_eq_some_iff.1 h
    injection e with e1 e2
    simp only at e1 e2 hy
    subst e1 e2
    obtain ⟨u, rfl, hu, hu2⟩ := numP_rest hx
    obtain ⟨v, rfl, hv, hv2⟩ := ih hy
    refine ⟨u ++ v, by rw [List.append_assoc], ?_, fun r' => ?_⟩
    · intro t ht
      rcases List.mem_append.1 ht with h | h
      · exact hu t h
      · exact hv t h
    · rw [numsS]
      rw [List.append_assoc, hu2]
      simp only [Option.bind_some]
      rw [hv2]
      rfl
theorem nums_eq (H : NumLaw PF) : ∀ (n : Nat) (ts : List Tok), (∀ t ∈ ts, Good t) → numsP PF n ts = numsS PF n ts := by
  intro n
  induction n with
  | zero => intro ts _; rfl
  | succ n ih =>
    intro ts h
    rw [numsS, numsP]
    rw [num_eq H ts h]
    cases hx : numS PF ts with
    | none => rfl
    | some p =>
      obtain ⟨x, r⟩ := p
      obtain ⟨u, rfl, hu, hu2⟩ := numP_rest hx
      simp only [Option.bind_some]
      rw [ih r fun t ht => h t (List.mem_append_right _ ht)]
theorem kind_of {t : Tok} (h : Good t) : (t.2 = [40] ↔ t.1 = 40) ∧ (t.2 = [41] ↔ t.1 = 41) ∧ (t.2 = EMP → t.1 = 97) := by
  cases h with
  | word h0 hl => exact ⟨⟨fun h => absurd h (word_ne h0 hl).1, fun h => absurd h (by simp)⟩, ⟨fun h => absurd h (word_ne h0 hl).2.1, fun h => absurd h (by simp)⟩, fun _ => rfl⟩
  | num h0 hl h1 => exact ⟨⟨fun h => absurd h (num_ne h1).1, fun h => absurd h (by simp)⟩, ⟨fun h => absurd h (num_ne h1).2.1, fun h => absurd h (by simp)⟩, fun h => absurd h (num_ne h1).2.2.2⟩
  | sign hs => exact ⟨⟨fun h => (by injection h), fun h => by simp only at h; rw [h]⟩, ⟨fun h => (by injection h), fun h => by simp only at h; rw [h]⟩, fun h => by simp [EMP] at h⟩
theorem body_skip : ∀ (u r : List Tok), (∀ t ∈ u, t.2 ≠ [40] ∧ t.2 ≠ [41]) → bodyF 1 true (u ++ r) = (bodyF 1 true r).map (u ++ ·) := by
  intro u
  induction u with
  | nil => intro r _; show bodyF 1 true r = _; cases bodyF 1 true r <;> rfl
  | cons t u ih =>
    intro r h
    have ht := h t (List.mem_cons_self ..)
    have hd : dep t.2 = 0 := by unfold dep; rw [if_neg ht.1, if_neg ht.2]
    rw [List.cons_append, bodyF, hd, if_neg (by decide), show (1 : Int) + 0 = 1 from rfl, ih r fun x hx => h x (List.mem_cons_of_mem _ hx)]
    cases bodyF 1 true r <;> rfl
theorem body_prefix : ∀ (ts : List Tok) (d : Int) (b : Bool) (B : List Tok), bodyF d b ts = some B → ∃ r, ts = B ++ r := by
  intro ts
  induction ts with
  | nil => intro d b B h; exact absurd h (by simp [bodyF])
  | cons t ts ih =>
    intro d b B h
    rw [bodyF] at h
    split at h
    · split at h
      · injection h with h; subst h; exact ⟨ts, rfl⟩
      · exact absurd h (by simp)
    · obtain ⟨B', h1, h2⟩ := Option.map_eq_some_iff.1 h
      obtain ⟨r, hr⟩ := ih _ _ _ h1
      subst h2
      exact ⟨r, by rw [hr]; rfl⟩
theorem read_law (H : NumLaw PF) (w : Nat) (ts : List Tok) (h : ∀ t ∈ ts, Good t) : (bodyF 0 false ts).bind (specRead PF w) = progRead PF w ts := by
  cases ts with
  | nil => rfl
  | cons t ts =>
    have hg := h t (List.mem_cons_self ..)
    have hr := fun u hu => h u (List.mem_cons_of_mem t hu)
    obtain ⟨k1, k2, k3⟩ := kind_of hg
    rw [progRead]
    by_cases he : t.2 = EMP
    · rw [if_pos he]
      have e : bodyF 0 false (t :: ts) = some [t] := by
        rw [bodyF, he, if_pos (by decide), if_pos (by simp)]
      rw [e, Option.bind_some]
      rw [specRead]
      rw [if_pos ⟨k3 he, he⟩, if_pos rfl]
    · rw [if_neg he]
      by_cases h40 : t.2 = [40]
      · rw [if_pos h40, nums_eq H w ts hr]
        have hk := k1.1 h40
        have e : bodyF 0 false (t :: ts) = (bodyF 1 true ts).map (t :: ·) := by
          rw [bodyF, h40, if_neg (by decide)]; rfl
        have hs : ∀ B, specRead PF w (t :: B) = (numsS PF w B).bind fun p => (match p.2 with | u :: us => if u.1 = 41 ∧ us = [] then some (some p.1) else none | [] => none) := by
          intro B
          rw [specRead]
          rw [if_neg (fun h => he h.2), if_pos hk]
        rw [e]
        cases hn : numsS PF w ts with
        | none =>
          rw [Option.bind_none]
          cases hB : bodyF 1 true ts with
          | none => rfl
          | some B =>
            obtain ⟨r, hr2⟩ := body_prefix _ _ _ _ hB
            show specRead PF w (t :: B) = none
            rw [hs]
            cases hm : numsS PF w B with
            | none => rfl
            | some p =>
              obtain ⟨xs, q⟩ := p
              obtain ⟨u, rfl, _, hu⟩ := numsS_rest w hm
              have := hu (q ++ r)
              rw [← List.append_assoc, ← hr2, hn] at this
              exact absurd this (by simp)
        | some p =>
          obtain ⟨xs, r⟩ := p
          obtain ⟨u, rfl, hu, hu2⟩ := numsS_rest w hn
          rw [Option.bind_some]
          have hsk := body_skip u r (fun x hx => by
            have hk := kind_of (hr x (List.mem_append_left _ hx))
            refine ⟨fun h => ?_, fun h => ?_⟩
            · have := hk.1.1 h; rcases hu x hx with e | e <;> rw [e] at this <;> exact absurd this (by decide)
            · have := hk.2.1.1 h; rcases hu x hx with e | e <;> rw [e] at this <;> exact absurd this (by decide))
          rw [hsk]
          cases r with
          | nil => rfl
          | cons v vs =>
            have hkv := kind_of (hr v (List.mem_append_right _ (List.mem_cons_self ..)))
            simp only
            by_cases h41 : v.2 = [41]
            · have e2 : bodyF 1 true (v :: vs) = some [v] := by
                rw [bodyF, h41, if_pos (by decide), if_pos (.inl rfl)]
              rw [e2, if_pos h41]
              show specRead PF w (t :: (u ++ [v])) = _
              rw [hs, hu2]
              simp only [Option.bind_some]
              rw [if_pos ⟨hkv.2.1.1 h41, trivial⟩]
            · rw [if_neg h41]
              cases hB : bodyF 1 true (v :: vs) with
              | none => rfl
              | some B =>
                have : ∃ B', B = v :: B' := by
                  rw [bodyF] at hB
                  split at hB
                  · split at hB
                    · injection hB with hB; exact ⟨[], hB.symm⟩
                    · exact absurd hB (by simp)
                  · obtain ⟨B', _, h2⟩ := Option.map_eq_some_iff.1 hB
                    exact ⟨B', h2.symm⟩
                obtain ⟨B', rfl⟩ := this
                show specRead PF w (t :: (u ++ v :: B')) = _
                rw [hs, hu2]
                simp only [Option.bind_some]
                rw [if_neg (fun h => h41 (hkv.2.1.2 h.1))]
      · rw [if_neg h40]
        cases hB : bodyF 0 false (t :: ts) with
        | none => rfl
        | some B =>
          have : ∃ B', B = t :: B' := by
            rw [bodyF] at hB
            split at hB
            · split at hB
              · injection hB with hB; exact ⟨[], hB.symm⟩
              · exact absurd hB (by simp)
            · obtain ⟨B', _, h2⟩ := Option.map_eq_some_iff.1 hB
              exact ⟨B', h2.symm⟩
          obtain ⟨B', rfl⟩ := this
          show specRead PF w (t :: B') = _
          rw [specRead]
          rw [if_neg (fun h => he h.2), if_neg (fun h => h40 (k1.2 h))]
end
end Go.Proofs.YtadpeebcombjnaaGreatDoor
namespace Go.Proofs.YtadpeebcombjnaaGreatDoor
set_option maxRecDepth 100000
def okB (c : UInt8) : Prop := 9 ≤ (c.toNat : Int) ∧ (c.toNat : Int) < 128
theorem okB_dig {c : UInt8} (h : isDig c = true) : okB c := by have := (isDig_iff c).1 h; unfold okB; omega
theorem okB_let {c : UInt8} (h : isLet c = true) : okB c := by have := (isLet_iff c).1 h; unfold okB; omega
theorem dig_all : ∀ (l : List UInt8), ∀ c ∈ l.take (digN l), isDig c = true := by
  intro l
  induction l with
  | nil => intro c hc; simp [digN] at hc
  | cons d l ih =>
    intro c hc
    unfold digN at hc
    split at hc
    · rw [List.take_succ_cons] at hc
      rcases List.mem_cons.1 hc with rfl | h
      · assumption
      · exact ih c h
    · simp at hc
theorem let_all : ∀ (l : List UInt8), ∀ c ∈ l.take (letN l), isLet c = true := by
  intro l
  induction l with
  | nil => intro c hc; simp [letN] at hc
  | cons d l ih =>
    intro c hc
    unfold letN at hc
    split at hc
    · rw [List.take_succ_cons] at hc
      rcases List.mem_cons.1 hc with rfl | h
      · assumption
      · exact ih c h
    · simp at hc
theorem mem_take_add {l : List UInt8} {a b : Nat} {c : UInt8} (h : c ∈ l.take (a + b)) : c ∈ l.take a ∨ c ∈ (l.drop a).take b := by
  rw [List.take_add] at h
  exact List.mem_append.1 h
theorem man_all (l : List UInt8) : ∀ c ∈ l.take (manN l), okB c := by
  intro c hc
  unfold manN at hc
  split at hc
  · rename_i d r e
    split at hc
    · rename_i h46
      split at hc
      · simp at hc
      · rw [Nat.add_assoc] at hc
        rcases mem_take_add hc with h | h
        · exact okB_dig (dig_all l c h)
        · rw [e, Nat.add_comm, List.take_succ_cons] at h
          rcases List.mem_cons.1 h with rfl | h
          · rw [h46]; unfold okB; decide
          · exact okB_dig (dig_all r c h)
    · exact okB_dig (dig_all l c hc)
  · exact okB_dig (dig_all l c hc)
theorem dec_all (l : List UInt8) : ∀ c ∈ l.take (decN l), okB c := by
  intro c hc
  unfold decN at hc
  split at hc
  · simp at hc
  · unfold expN at hc
    split at hc
    · rename_i d r e
      split at hc
      · rename_i hd
        have hdo : okB d := by rcases hd with rfl | rfl <;> (unfold okB; decide)
        have key : ∀ k, manN l + 1 ≤ k → (∀ c ∈ (l.drop (manN l + 1)).take (k - (manN l + 1)), okB c) → c ∈ l.take (if 0 < digN (l.drop k) then k + digN (l.drop k) else manN l) → okB c := by
          intro k hk h1 h2
          split at h2
          · rcases mem_take_add h2 with h | h
            · rw [show k = manN l + (1 + (k - (manN l + 1))) from by omega] at h
              rcases mem_take_add h with h | h
              · exact man_all l c h
              · rcases mem_take_add h with h | h
                · rw [e] at h
                  simp at h
                  rw [h]; exact hdo
                · rw [List.drop_drop] at h
                  exact h1 c h
            · exact okB_dig (dig_all _ c h)
          · exact man_all l c h2
        refine key _ ?_ ?_ hc
        · split
          · split <;> omega
          · omega
        · have hr : l.drop (manN l + 1) = r := by rw [← List.drop_drop, e]; rfl
          rw [hr]
          intro x hx
          split at hx
          · rename_i d2 r2
            split at hx
            · rename_i hs
              rw [show manN l + 2 - (manN l + 1) = 1 from by omega, List.take_succ_cons] at hx
              simp at hx
              rw [hx]
              rcases hs with rfl | rfl <;> (unfold okB; decide)
            · rw [Nat.sub_self] at hx; simp at hx
          · rw [Nat.sub_self] at hx; simp at hx
      · exact man_all l c hc
    · exact man_all l c hc
theorem tok_asc : ∀ (f : Nat) (l : List UInt8) (j : Bool) (ts : List Tok), l.length ≤ f → toksAt l j = some ts → ∀ c ∈ l, okB c := by
  intro f
  induction f with
  | zero =>
    intro l j ts hl h c hc
    have : l = [] := List.length_eq_zero_iff.1 (by omega)
    rw [this] at hc
    exact absurd hc (by simp)
  | succ f ih =>
    intro l j ts hl h c hc
    cases l with
    | nil => exact absurd hc (by simp)
    | cons d r =>
      have hr : r.length ≤ f := by simp at hl; omega
      have hd1 : ∀ {n : Nat} {j' : Bool} {ts' : List Tok}, 0 < n → toksAt ((d :: r).drop n) j' = some ts' → (∀ c ∈ (d :: r).take n, okB c) → okB c := by
        intro n j' ts' hn h1 h2
        rw [← List.take_append_drop n (d :: r)] at hc
        rcases List.mem_append.1 hc with h | h
        · exact h2 c h
        · exact ih _ j' ts' (by rw [List.length_drop]; simp; omega) h1 c h
      rcases byte_view d with ⟨h1, h2⟩ | ⟨h1, h2, h3⟩ | ⟨h1, h2⟩ | ⟨_, _, h1, h2⟩
      · rw [toksAt_blank h1] at h
        rcases List.mem_cons.1 hc with e | e
        · rw [e]; rcases h1 with rfl | rfl | rfl | rfl <;> (unfold okB; decide)
        · exact ih r false ts hr h c e
      · rw [toksAt_sign h1, if_neg (fun e => h3 e.1)] at h
        obtain ⟨ts', e1, e2⟩ := Option.map_eq_some_iff.1 h
        rcases List.mem_cons.1 hc with e | e
        · rw [e]; rcases h1 with rfl | rfl | rfl | rfl <;> (unfold okB; decide)
        · exact ih r false ts' hr e1 c e
      · rw [toksAt_sign (.inr (.inr (.inr h1)))] at h
        split at h
        · exact absurd h (by simp)
        obtain ⟨ts', e1, e2⟩ := Option.map_eq_some_iff.1 h
        rcases List.mem_cons.1 hc with e | e
        · rw [e, h1]; unfold okB; decide
        · exact ih r false ts' hr e1 c e
      · by_cases hw : isLet d = true
        · rw [toksAt_word hw] at h
          split at h
          · exact absurd h (by simp)
          obtain ⟨ts', e1, e2⟩ := Option.map_eq_some_iff.1 h
          exact hd1 (letN_pos hw) e1 fun c hc => okB_let (let_all _ c hc)
        · rw [toksAt_num h1 h2 hw] at h
          split at h
          · exact absurd h (by simp)
          rename_i hn
          obtain ⟨ts', e1, e2⟩ := Option.map_eq_some_iff.1 h
          exact hd1 (by rcases Nat.eq_zero_or_pos (decN (d :: r)) with e | e; exact absurd (.inl e) hn; exact e) e1 (dec_all _)
end Go.Proofs.YtadpeebcombjnaaGreatDoor
namespace Go.Proofs.YtadpeebcombjnaaGreatDoor
set_option maxRecDepth 100000
theorem man_cls (l : List UInt8) : ∀ c ∈ l.take (manN l), isDig c = true ∨ c = 46 := by
  intro c hc
  unfold manN at hc
  split at hc
  · rename_i d r e
    split at hc
    · rename_i h46
      split at hc
      · simp at hc
      · rw [Nat.add_assoc] at hc
        rcases mem_take_add hc with h | h
        · exact .inl (dig_all l c h)
        · rw [e, Nat.add_comm, List.take_succ_cons] at h
          rcases List.mem_cons.1 h with rfl | h
          · exact .inr h46
          · exact .inl (dig_all r c h)
    · exact .inl (dig_all l c hc)
  · exact .inl (dig_all l c hc)
theorem mem_take_of {l : List UInt8} {a n i : Nat} (h : i < l.length) (h1 : a ≤ i) (h2 : i < a + n) : l[i] ∈ (l.drop a).take n := by
  rw [List.mem_iff_getElem]
  refine ⟨i - a, by rw [List.length_take, List.length_drop]; omega, ?_⟩
  rw [List.getElem_take, List.getElem_drop]
  congr 1
  omega
theorem not_dig_e {c : UInt8} (h : c = 101 ∨ c = 69) : isDig c = false ∧ c ≠ 46 ∧ c ≠ 43 ∧ c ≠ 45 := by rcases h with rfl | rfl <;> decide
theorem dec_e {l : List UInt8} (hd : decN l = l.length) {i : Nat} (h : i < l.length) (he : l[i] = 101 ∨ l[i] = 69) :
    i = manN l ∧ i + 1 < l.length ∧ ∀ h' : i + 1 < l.length, (l[i + 1] = 43 ∨ l[i + 1] = 45) → i + 2 < l.length := by
  have hne := not_dig_e he
  have hi : manN l ≤ i := by
    rcases Nat.lt_or_ge i (manN l) with hlt | hge
    · have := man_cls l l[i] (by have := mem_take_of (a := 0) (n := manN l) h (Nat.zero_le _) (by omega); simpa using this)
      rcases this with h1 | h1
      · rw [h1] at hne; exact absurd hne.1 (by simp)
      · exact absurd h1 hne.2.1
    · exact hge
  unfold decN at hd
  split at hd
  · omega
  unfold expN at hd
  have hm : manN l < l.length := by omega
  rw [List.drop_eq_getElem_cons hm] at hd
  simp only at hd
  split at hd
  · rename_i hme
    have key : ∀ k, manN l + 1 ≤ k → (∀ x, manN l + 1 ≤ x → x < k → ∀ hx : x < l.length, l[x] = 43 ∨ l[x] = 45) → (if 0 < digN (l.drop k) then k + digN (l.drop k) else manN l) = l.length → i = manN l ∧ k < l.length := by
      intro k hk h1 h2
      split at h2
      · rename_i h0
        refine ⟨?_, by omega⟩
        rcases Nat.lt_or_ge (manN l) i with hlt | hge
        · exfalso
          rcases Nat.lt_or_ge i k with hik | hik
          · have := h1 i hlt hik h
            rcases this with e | e
            · exact hne.2.2.1 e
            · exact hne.2.2.2 e
          · have := dig_all _ _ (mem_take_of (a := k) (n := digN (l.drop k)) h hik (by omega))
            rw [hne.1] at this
            exact absurd this (by simp)
        · omega
      · omega
    by_cases h1 : manN l + 1 < l.length
    · rw [List.drop_eq_getElem_cons h1] at hd
      simp only at hd
      by_cases hs : l[manN l + 1] = 43 ∨ l[manN l + 1] = 45
      · rw [if_pos hs] at hd
        obtain ⟨e1, e2⟩ := key (manN l + 2) (by omega) (fun x hx1 hx2 hx => by
          obtain rfl : x = manN l + 1 := by omega
          exact hs) hd
        exact ⟨e1, by omega, fun _ _ => by omega⟩
      · rw [if_neg hs] at hd
        obtain ⟨e1, e2⟩ := key (manN l + 1) (by omega) (fun x hx1 hx2 hx => by omega) hd
        refine ⟨e1, by omega, fun h' hs' => ?_⟩
        subst e1
        exact absurd hs' hs
    · have hn : l.drop (manN l + 1) = [] := List.drop_eq_nil_of_le (by omega)
      rw [hn] at hd
      simp only at hd
      rw [hn] at hd
      simp [digN] at hd
      omega
  · omega
end Go.Proofs.YtadpeebcombjnaaGreatDoor
