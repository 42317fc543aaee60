/- Multiprecision decimals: what set reads, in plain words, and what a digit more does in memory. -/
import Derived.Test.YtadpeebcombjnaaGreatDoorDFDI
import Derived.Test.YtadpeebcombjnaaGreatDoorRARB
namespace Go.Proofs.YtadpeebcombjnaaGreatDoor
open Go Go.Proofs Go.RowKit Go.Lib
set_option maxRecDepth 100000
/-- What is known of the digits. -/
structure SS where
  dot : Bool
  dig : Bool
  P : Nat
  nd : Nat
  dp : Int
  tr : Bool
def SS.step (st : SS) (c : UInt8) : SS :=
  if c = 48 ∧ st.nd = 0 then ⟨st.dot, true, st.P, st.nd, st.dp - 1, st.tr⟩
  else if st.nd < 800 then ⟨st.dot, true, st.P * 10 + (c.toNat - 48), st.nd + 1, st.dp, st.tr⟩
  else ⟨st.dot, true, st.P, st.nd, st.dp, st.tr || c != 48⟩
def sM : List UInt8 → SS → Option (SS × List UInt8)
  | [], st => some (st, [])
  | c :: l, st =>
    if c = 46 then (if st.dot = true then none else sM l ⟨true, st.dig, st.P, st.nd, st.nd, st.tr⟩)
    else if isDig c = true then sM l (st.step c) else some (st, c :: l)
def ssI : SS := ⟨false, false, 0, 0, 0, false⟩
/-- The decimal that is read. -/
def setF (t : List UInt8) : Option DSt :=
  (sM t ssI).bind fun q => if q.1.dig = false then none else
    (exF q.2).bind fun p => if p.2 = [] then some ⟨q.1.P, q.1.nd, (if q.1.dot = true then q.1.dp else (q.1.nd : Int)) + p.1, q.1.tr⟩ else none
/-- What holds behind k bytes. -/
structure SB (st : SS) (k : Nat) : Prop where
  nd : st.nd ≤ k
  n8 : st.nd ≤ 800
  dp : -(k : Int) ≤ st.dp ∧ st.dp ≤ k
  lt : st.P < 10 ^ st.nd
  low : st.nd = 0 ∨ 10 ^ (st.nd - 1) ≤ st.P
theorem SB.step {st : SS} {k : Nat} (h : SB st k) {c : UInt8} (hc : isDig c = true) : SB (st.step c) (k + 1) := by
  obtain ⟨h1, h2, h3, h4, h5⟩ := h
  have hd := (isDig_iff c).1 hc
  obtain ⟨dot, dig, P, nd, dp, tr⟩ := st
  dsimp only at h1 h2 h3 h4 h5
  unfold SS.step
  dsimp only
  split
  · exact ⟨by dsimp only; omega, h2, by dsimp only; omega, h4, h5⟩
  · rename_i hz
    split
    · refine ⟨by dsimp only; omega, by dsimp only; omega, by dsimp only; omega, ?_, .inr ?_⟩
      · dsimp only
        rw [Nat.pow_succ]; omega
      · dsimp only
        rcases h5 with h5 | h5
        · have hc48 : c.toNat ≠ 48 := fun e => hz ⟨UInt8.toNat_inj.1 e, h5⟩
          subst h5
          simp only [Nat.zero_add, Nat.sub_self, Nat.pow_zero]
          omega
        · rcases Nat.eq_zero_or_pos nd with h0 | h0
          · have hc48 : c.toNat ≠ 48 := fun e => hz ⟨UInt8.toNat_inj.1 e, h0⟩
            subst h0
            simp only [Nat.zero_add, Nat.sub_self, Nat.pow_zero]
            omega
          · have e : 10 ^ (nd + 1 - 1) = 10 ^ (nd - 1) * 10 := by rw [← Nat.pow_succ, show (nd - 1).succ = nd + 1 - 1 from by omega]
            rw [e]
            omega
    · exact ⟨by dsimp only; omega, h2, by dsimp only; omega, h4, h5⟩
theorem DC.setDp {C : Array Value} {P nd : Nat} {dp : Int} {neg tr : Bool} (h : DC C P nd dp neg tr) (z : Int) : DC (C.setIfInBounds 801 (.int .i64 z)) P nd z neg tr := by
  have h8 := h.le
  refine ⟨by simpa using h.size, fun j hj => ?_, fun j hj => ?_, ?_, ?_, ?_, ?_, h.le, h.lt⟩
  · rw [get_set _ _ _ _ (by omega)]; exact h.byte j hj
  · rw [get_set _ _ _ _ (by omega)]; exact h.dig j hj
  · rw [get_set _ _ _ _ (by omega)]; exact h.cnd
  · rw [get_self _ _ _ (by rw [h.size]; decide)]
  · rw [get_set _ _ _ _ (by omega)]; exact h.cneg
  · rw [get_set _ _ _ _ (by omega)]; exact h.ctr
theorem DC.setTr {C : Array Value} {P nd : Nat} {dp : Int} {neg tr : Bool} (h : DC C P nd dp neg tr) (z : Bool) : DC (C.setIfInBounds 803 (.bool z)) P nd dp neg z := by
  have h8 := h.le
  refine ⟨by simpa using h.size, fun j hj => ?_, fun j hj => ?_, ?_, ?_, ?_, ?_, h.le, h.lt⟩
  · rw [get_set _ _ _ _ (by omega)]; exact h.byte j hj
  · rw [get_set _ _ _ _ (by omega)]; exact h.dig j hj
  · rw [get_set _ _ _ _ (by omega)]; exact h.cnd
  · rw [get_set _ _ _ _ (by omega)]; exact h.cdp
  · rw [get_set _ _ _ _ (by omega)]; exact h.cneg
  · rw [get_self _ _ _ (by rw [h.size]; decide)]
theorem DC.setNeg {C : Array Value} {P nd : Nat} {dp : Int} {neg tr : Bool} (h : DC C P nd dp neg tr) (z : Bool) : DC (C.setIfInBounds 802 (.bool z)) P nd dp z tr := by
  have h8 := h.le
  refine ⟨by simpa using h.size, fun j hj => ?_, fun j hj => ?_, ?_, ?_, ?_, ?_, h.le, h.lt⟩
  · rw [get_set _ _ _ _ (by omega)]; exact h.byte j hj
  · rw [get_set _ _ _ _ (by omega)]; exact h.dig j hj
  · rw [get_set _ _ _ _ (by omega)]; exact h.cnd
  · rw [get_set _ _ _ _ (by omega)]; exact h.cdp
  · rw [get_self _ _ _ (by rw [h.size]; decide)]
  · rw [get_set _ _ _ _ (by omega)]; exact h.ctr
/-- A digit more. -/
theorem DC.push {C : Array Value} {P nd : Nat} {dp : Int} {neg tr : Bool} (h : DC C P nd dp neg tr) {c : Nat} (hc : 48 ≤ c ∧ c ≤ 57) (hn : nd < 800) :
    DC ((C.setIfInBounds nd (.int .u8 (c : Nat))).setIfInBounds 800 (.int .i64 ((nd : Int) + 1))) (P * 10 + (c - 48)) (nd + 1) dp neg tr := by
  refine ⟨by simpa using h.size, fun j hj => ?_, fun j hj => ?_, ?_, ?_, ?_, ?_, hn, ?_⟩
  · rw [get_set _ _ _ _ (by omega)]
    by_cases e : nd = j
    · subst e; exact ⟨c, by omega, get_self _ _ _ (by rw [h.size]; omega)⟩
    · rw [get_set _ _ _ _ e]; exact h.byte j hj
  · rw [get_set _ _ _ _ (by omega)]
    by_cases e : nd = j
    · subst e
      rw [get_self _ _ _ (by rw [h.size]; omega), show nd + 1 - 1 - nd = 0 from by omega]
      have : 48 + dgt (P * 10 + (c - 48)) 0 = c := by unfold dgt; rw [Nat.pow_zero, Nat.div_one]; omega
      rw [this]
    · rw [get_set _ _ _ _ e, h.dig j (by omega), show nd + 1 - 1 - j = nd - 1 - j + 1 from by omega, ← dgt_div, show (P * 10 + (c - 48)) / 10 = P from by omega]
  · rw [get_self _ _ _ (by rw [Array.size_setIfInBounds, h.size]; decide)]; rfl
  · rw [get_set _ _ _ _ (by omega), get_set _ _ _ _ (by omega)]; exact h.cdp
  · rw [get_set _ _ _ _ (by omega), get_set _ _ _ _ (by omega)]; exact h.cneg
  · rw [get_set _ _ _ _ (by omega), get_set _ _ _ _ (by omega)]; exact h.ctr
  · have := h.lt
    rw [Nat.pow_succ]; omega
theorem edF_bound {l : List UInt8} {sg : Int} {x : Int} {r : List UInt8} (hs : sg = 1 ∨ sg = -1) (h : edF l sg = some (x, r)) : -99999 ≤ x ∧ x ≤ 99999 := by
  cases l with
  | nil => cases h
  | cons a l =>
    have h : (if isDig a = true then some (((eF (a :: l) 0).1 : Int) * sg, (eF (a :: l) 0).2) else none) = some (x, r) := h
    by_cases hd : isDig a = true
    · rw [if_pos hd] at h
      have h1 := congrArg Prod.fst (Option.some.inj h)
      have hb := eF_le (a :: l) 0 (by decide)
      dsimp only at h1
      rcases hs with hs | hs <;> rw [hs] at h1 <;> omega
    · rw [if_neg hd] at h; cases h
theorem esF_sign (l : List UInt8) : (esF l).1 = 1 ∨ (esF l).1 = -1 := by
  cases l with
  | nil => exact .inl rfl
  | cons c l =>
    have h : esF (c :: l) = if c = 43 then (1, l) else if c = 45 then (-1, l) else (1, c :: l) := rfl
    rw [h]
    split
    · exact .inl rfl
    · split
      · exact .inr rfl
      · exact .inl rfl
theorem exF_bound {l : List UInt8} {x : Int} {r : List UInt8} (h : exF l = some (x, r)) : -99999 ≤ x ∧ x ≤ 99999 := by
  cases l with
  | nil =>
    have h1 := congrArg Prod.fst (Option.some.inj h)
    have h1 : (0 : Int) = x := h1
    omega
  | cons c l =>
    have h : (if c = 101 ∨ c = 69 then (if l = [] then none else edF (esF l).2 (esF l).1) else some (0, c :: l)) = some (x, r) := h
    by_cases hc : c = 101 ∨ c = 69
    · rw [if_pos hc] at h
      by_cases hl : l = []
      · rw [if_pos hl] at h; cases h
      · rw [if_neg hl] at h; exact edF_bound (esF_sign l) h
    · rw [if_neg hc] at h
      have h1 := congrArg Prod.fst (Option.some.inj h)
      have h1 : (0 : Int) = x := h1
      omega
theorem setF_ok {t : List UInt8} {s : DSt} (h : setF t = some s) (hl : t.length ≤ 3000) : (s.nd = 0 ∨ s.ok) ∧ -200000 ≤ s.dp ∧ s.dp ≤ 200000 := by
  have hM : ∀ (l : List UInt8) (st : SS) (k : Nat), SB st k → ∀ q, sM l st = some q → SB q.1 (k + l.length) := by
    intro l
    induction l with
    | nil => intro st k hs q hq; injection hq with hq; rw [← hq]; exact hs
    | cons c l ih =>
      intro st k hs q hq
      have e : k + (c :: l).length = k + 1 + l.length := by rw [List.length_cons]; omega
      rw [sM] at hq
      split at hq
      · split at hq
        · cases hq
        · rw [e]
          exact ih ⟨true, st.dig, st.P, st.nd, st.nd, st.tr⟩ (k + 1) ⟨by have := hs.nd; dsimp only; omega, hs.n8, by have := hs.nd; dsimp only; omega, hs.lt, hs.low⟩ q hq
      · split at hq
        · rename_i hd
          rw [e]
          exact ih _ _ (hs.step hd) q hq
        · injection hq with hq
          rw [← hq]
          obtain ⟨h1, h2, h3, h4, h5⟩ := hs
          exact ⟨by rw [List.length_cons]; dsimp only; omega, h2, by rw [List.length_cons]; dsimp only; constructor <;> omega, h4, h5⟩
  unfold setF at h
  obtain ⟨q, hq, h⟩ := Option.bind_eq_some_iff.1 h
  split at h
  · cases h
  obtain ⟨⟨x, r⟩, hx, h⟩ := Option.bind_eq_some_iff.1 h
  split at h
  · injection h with h
    subst h
    have hb := hM t ssI 0 ⟨Nat.le_refl _, by decide, ⟨by decide, by decide⟩, by decide, .inl rfl⟩ q hq
    have hxb := exF_bound hx
    obtain ⟨h1, h2, h3, h4, h5⟩ := hb
    refine ⟨?_, ?_⟩
    · rcases h5 with h5 | h5
      · exact .inl h5
      · rcases Nat.eq_zero_or_pos q.1.nd with h0 | h0
        · exact .inl h0
        · exact .inr ⟨h0, h2, h4, h5⟩
    · dsimp only
      split <;> omega
  · cases h
end Go.Proofs.YtadpeebcombjnaaGreatDoor
