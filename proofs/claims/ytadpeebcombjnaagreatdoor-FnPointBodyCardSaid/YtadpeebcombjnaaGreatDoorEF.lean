/- internal/strconv's atof64, in plain words. -/
import Derived.Test.YtadpeebcombjnaaGreatDoorECEE
import Derived.Test.YtadpeebcombjnaaGreatDoorDL
namespace Go.Proofs.YtadpeebcombjnaaGreatDoor
open Go Go.Proofs Go.RowKit Go.Lib
set_option maxRecDepth 100000
def Z192 : Array Value := ((List.replicate 800 (Value.int .u8 0)) ++ ([Value.int .i64 0, Value.int .i64 0, Value.bool false, Value.bool false] : List Value)).toArray
theorem zero192 (w : World) : (zeroValue 192).run Tryz.prog w = .ok (.agg Z192) w := by kernel_rfl
theorem Z192_get (j : Nat) (h : j < 800) : Z192[j]? = some (.int .u8 0) := by
  unfold Z192
  rw [List.getElem?_toArray, List.getElem?_append_left (by rw [List.length_replicate]; exact h), List.getElem?_replicate, if_pos h]
theorem DC_zero : DC Z192 0 0 0 false false :=
  ⟨by kernel_rfl, fun j hj => ⟨0, by decide, Z192_get j hj⟩, fun j hj => absurd hj (Nat.not_lt_zero _), by kernel_rfl, by kernel_rfl, by kernel_rfl, by kernel_rfl, by decide, by decide⟩
/-- Whether two words without a sign are equal floats. -/
def feq (x y : Nat) : Bool := FloatKind.f64.format.order x y == some .eq
/-- The word without its sign, and whether it is out of range (or the digits cannot be read). -/
noncomputable def mg (t : List UInt8) (m : Nat) (x : Int) (tr : Bool) : Nat × Bool :=
  if m = 0 then (0, false) else if 310 < x then (9218868437227405312, true) else if x < -345 then (0, false)
  else if tr = false then (match exW m x with | some y => (y, false) | none => pf64 m x)
  else if feq (pf64 m x).1 (pf64 (m + 1) x).1 = true then pf64 m x
  else (match setF t with | some s => (fbW (fbT s), (fbT s).2.2) | none => (0, true))
/-- What atof64 gives: the word and how many bytes are taken; or an error. -/
noncomputable def atF (neg : Bool) (l t : List UInt8) : Option (Nat × Nat) :=
  match spF l with
  | some q => some q
  | none => (rfF t).bind fun q =>
    if (mg (t.take (t.length - q.2.2.2.length)) q.1 q.2.1 q.2.2.1).2 = true then none
    else some ((mg (t.take (t.length - q.2.2.2.length)) q.1 q.2.1 q.2.2.1).1 + sgn neg, l.length - q.2.2.2.length)
def fbH (m : Nat) (e : Int) : Nat × Int × Bool :=
  let r : Nat × Int := if m = 9007199254740992 then (4503599627370496, e + 1) else (m, e)
  if 1024 ≤ r.2 then (0, 1024, true) else (r.1, (if r.1 / 4503599627370496 % 2 = 0 then -1023 else r.2), false)
noncomputable def fbG (q : DSt × Int) : Nat × Int × Bool := if 1024 ≤ q.2 then (0, 1024, true) else fbH (rndI (dsL 53 q.1)) q.2
theorem fbM_eq (s : DSt) : ∃ q, fbM s = fbG q := ⟨_, rfl⟩
def FB (t : Nat × Int × Bool) : Prop := t.2.1 + 1023 ≤ 2047 ∧ (t.2.2 = false → t.2.1 + 1023 ≤ 2046)
theorem fbH_b (m : Nat) (e : Int) : FB (fbH m e) := by
  unfold fbH
  generalize (if m = 9007199254740992 then (4503599627370496, e + 1) else (m, e) : Nat × Int) = r
  obtain ⟨r1, r2⟩ := r
  dsimp only
  split
  · exact ⟨by decide, fun h => by cases h⟩
  · split
    · exact ⟨by dsimp only; decide, fun _ => by dsimp only; decide⟩
    · exact ⟨by dsimp only; omega, fun _ => by dsimp only; omega⟩
theorem fbT_bound (s : DSt) : FB (fbT s) := by
  unfold fbT
  split
  · exact ⟨by decide, fun _ => by decide⟩
  split
  · exact ⟨by decide, fun h => by cases h⟩
  split
  · exact ⟨by decide, fun _ => by decide⟩
  obtain ⟨q, hq⟩ := fbM_eq s
  rw [hq]
  unfold fbG
  split
  · exact ⟨by decide, fun h => by cases h⟩
  · exact fbH_b _ _
theorem fbW_fin (s : DSt) : fbW (fbT s) < 9223372036854775808 ∧ ((fbT s).2.2 = false → finW (fbW (fbT s)) = true) := by
  obtain ⟨h1, h2⟩ := fbT_bound s
  unfold fbW finW
  have hm : (fbT s).1 % 4503599627370496 < 4503599627370496 := Nat.mod_lt _ (by decide)
  refine ⟨by omega, fun h => decide_eq_true ?_⟩
  have := h2 h
  omega
theorem mg_fin {t : List UInt8} {m : Nat} {x : Int} {tr : Bool} (hm : m < 10 ^ 19) : (mg t m x tr).1 < 9223372036854775808 ∧ ((mg t m x tr).2 = false → finW (mg t m x tr).1 = true) := by
  unfold mg
  split
  · exact ⟨by decide, fun _ => by decide⟩
  split
  · exact ⟨by decide, fun h => by cases h⟩
  split
  · exact ⟨by decide, fun _ => by decide⟩
  rename_i h0 h1 h2
  have hp : -345 ≤ x ∧ x ≤ 310 := by omega
  split
  · cases he : exW m x with
    | some y => exact ⟨(exW_fin he).1, fun _ => (exW_fin he).2⟩
    | none => exact pf64_low (by omega) hp
  split
  · exact pf64_low (by omega) hp
  · cases hs : setF t with
    | some s => exact fbW_fin s
    | none => exact ⟨by decide, fun h => by cases h⟩
/-- A word without a sign that is a finite number or the infinity. -/
def Fi (x : Nat) : Prop := x < 9223372036854775808 ∧ (finW x = true ∨ x = 9218868437227405312)
theorem pk_fi {m : Nat} {e : Int} (hm : m ≤ 9007199254740992) (he : -1074 ≤ e) : Fi (pk m e).1 := by
  have h := pk_low hm he
  refine ⟨h.1, ?_⟩
  cases hb : (pk m e).2 with
  | false => exact .inl (h.2 hb)
  | true =>
    right
    unfold pk at hb ⊢
    split at hb
    · cases hb
    · rename_i h1
      split at hb
      · rename_i h2
        rw [if_neg h1, if_pos h2]
      · cases hb
theorem pf64_fi {d : Nat} {p : Int} (hd : d < 2 ^ 64) (hp : -345 ≤ p ∧ p ≤ 310) : Fi (pf64 d p).1 := by
  unfold pf64
  have hu := pfU_lt (p := p) hd
  have he := pfE_bound (d := d) hp
  split
  · exact ⟨by decide, .inl (by decide)⟩
  · split
    · exact pk_fi (rnd_le (or_lt' (by omega) (by omega))) (by omega)
    · exact pk_fi (rnd_le (or_lt' (by omega) (by omega))) (by omega)
theorem feq_sg {x y : Nat} (neg : Bool) (hx : Fi x) (hy : Fi y) : (FloatKind.f64.format.order (x + sgn neg) (y + sgn neg) == some .eq) = feq x y := by
  cases neg with
  | false => rfl
  | true =>
    show (Ieee.double.order (x + 9223372036854775808) (y + 9223372036854775808) == some .eq) = (Ieee.double.order x y == some .eq)
    have hi : Ieee.double.read 9218868437227405312 = .infinity false := by decide
    have hj : Ieee.double.read (9218868437227405312 + 9223372036854775808) = .infinity true := by decide
    unfold Ieee.Format.order
    rcases hx with ⟨hx1, hx2 | hx2⟩
    · obtain ⟨m, i, r1, r2, -⟩ := read_both hx1 hx2
      rcases hy with ⟨hy1, hy2 | hy2⟩
      · obtain ⟨n, j, q1, q2, -⟩ := read_both hy1 hy2
        rw [r1, r2, q1, q2]
        simp only [Ieee.Datum.order, Ieee.signed]
        generalize m <<< (i - min i j).toNat = a
        generalize n <<< (j - min i j).toNat = b
        have hb : ∀ o o' : Ordering, (some o == some o') = (o == o') := fun o o' => rfl
        rw [hb, hb]
        simp only [if_true, Bool.false_eq_true, if_false]
        rw [Bool.eq_iff_iff, beq_iff_eq, beq_iff_eq, Int.compare_eq_eq, Int.compare_eq_eq]
        omega
      · subst hy2
        rw [r1, r2, hi, hj]
        rfl
    · subst hx2
      rcases hy with ⟨hy1, hy2 | hy2⟩
      · obtain ⟨n, j, q1, q2, -⟩ := read_both hy1 hy2
        rw [q1, q2, hi, hj]
        rfl
      · subst hy2
        rw [hi, hj]
        rfl
end Go.Proofs.YtadpeebcombjnaaGreatDoor
