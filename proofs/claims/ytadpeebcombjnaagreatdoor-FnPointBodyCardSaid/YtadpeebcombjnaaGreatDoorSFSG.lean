/- The reference's reader of tokens: next, take, word. -/
import Derived.Test.YtadpeebcombjnaaGreatDoorSDSE
namespace Go.Proofs.YtadpeebcombjnaaGreatDoor
open Go Go.Proofs Go.RowKit Go.Lib
set_option maxRecDepth 100000
/-- The reader in block r: ts are still to be read; its tokens lie in block g. -/
structure RD (w : World) (r : Nat) (all ts : List Tok) (bad : Bool) (g : Nat) (o m c : Nat) : Prop where
  row : Row w r #[.slice (some ⟨g, o, none⟩) m c, .bool bad] 60
  len : m = ts.length
  mc : m ≤ c
  cap : c ≤ 9223372036854775807
  pos : 0 < m → ∀ j, j < 2 * m → w.cell? ⟨g, o + j, none⟩ = (tokCells ts)[j]?
  all' : ts.length ≤ all.length
def nx (ts : List Tok) (bad : Bool) : UInt8 := if bad then 0 else match ts with | [] => 0 | t :: _ => t.1
theorem rnext_any {w : World} {r : Nat} {all ts : List Tok} {bad : Bool} {g o m c : Nat} (h : RD w r all ts bad g o m c) :
    Calls Tryz.prog 51 #[.pointer (some ⟨r, 0, none⟩)] w fun e w' => e = .returned (.int .u8 ((nx ts bad).toNat : Int)) ∧ w' = w := by
  have d0 := h.row.cell (j := 0) rfl
  have d1 := h.row.cell (j := 1) rfl
  have d0 : w.cell? ⟨r, 0, none⟩ = some (.slice (some ⟨g, o, none⟩) m c) := d0
  have d1 : w.cell? ⟨r, 1, none⟩ = some (.bool bad) := d1
  have hc := h.cap
  have hmc := h.mc
  rcases Nat.eq_zero_or_pos m with h0 | h0
  · have hts : ts = [] := List.length_eq_zero_iff.1 (by have := h.len; omega)
    subst hts
    have hn : nx [] bad = 0 := by cases bad <;> rfl
    have hm0 : (m : Int) = 0 := by omega
    have hmb : ((m : Int) == 0) = true := by simp [hm0]
    have HN := Lib.hid hn
    clear h hn h0 hm0
    go_enter Tryz.func51, Tryz.ntmps51
    go_wp2_with fail
    go_ret
    exact ⟨by rw [HN.out]; rfl, rfl⟩
  · obtain ⟨t, ts', rfl⟩ := List.exists_cons_of_ne_nil (l := ts) (by intro e; have := h.len; rw [e] at this; simp at this; omega)
    have c0 := h.pos h0 0 (by omega)
    have hk : (tokCells (t :: ts'))[0]? = some (.int .u8 (t.1.toNat : Int)) := by simp [tokCells]
    rw [hk, Nat.add_zero] at c0
    have hmb : ((m : Int) == 0) = false := by simp; omega
    have hmp : (0 : Int) < (m : Int) := by omega
    have HN : Hid (nx (t :: ts') bad = if bad then 0 else t.1) := Lib.hid (by cases bad <;> rfl)
    clear h hk h0
    cases bad with
    | true =>
      go_enter Tryz.func51, Tryz.ntmps51
      go_wp2_with fail
      go_ret
      exact ⟨by rw [HN.out]; rfl, rfl⟩
    | false =>
      go_enter Tryz.func51, Tryz.ntmps51
      go_wp2_with fail
      go_ret
      exact ⟨by rw [HN.out]; rfl, rfl⟩

theorem RD.step {w : World} {r : Nat} {all : List Tok} {t : Tok} {ts' : List Tok} {bad : Bool} {g o m c : Nat} (h : RD w r all (t :: ts') bad g o m c) (hrg : r ≠ g) {o' : Nat} (ho : 0 < m - 1 → o' = o + 2) :
    RD (w.setCell ⟨r, 0, none⟩ (.slice (some ⟨g, o', none⟩) (m - 1) (c - 1))) r all ts' bad g o' (m - 1) (c - 1) := by
  have hl := h.len
  rw [List.length_cons] at hl
  refine ⟨h.row.set 0 _, by omega, by have := h.mc; omega, by have := h.cap; omega, fun hp j hj => ?_, by have := h.all'; rw [List.length_cons] at this; omega⟩
  rw [World.cell?_setCell_other _ _ _ _ (by intro e; injection e with e _; exact hrg e), ho hp, show o + 2 + j = o + (j + 2) from by omega, h.pos (by omega) (j + 2) (by omega)]
  simp [tokCells]
def TakePost (r g : Nat) (all ts : List Tok) (bad : Bool) (k : UInt8) (w : World) (e : Ending) (w' : World) : Prop :=
  (nx ts bad ≠ k ∧ e = .returned (.string ⟨#[]⟩) ∧ w' = w.setCell ⟨r, 1, none⟩ (.bool true)) ∨
    (nx ts bad = k ∧ ∃ t ts' o m c v, ts = t :: ts' ∧ bad = false ∧ e = .returned (.string ⟨t.2.toArray⟩) ∧ w' = w.setCell ⟨r, 0, none⟩ v ∧ RD w' r all ts' false g o m c)
theorem take_any {w : World} {r : Nat} {all ts : List Tok} {bad : Bool} {g o m c : Nat} (h : RD w r all ts bad g o m c) (hrg : r ≠ g) (k : UInt8) (hk0 : k ≠ 0) :
    Calls Tryz.prog 38 #[.pointer (some ⟨r, 0, none⟩), .int .u8 (k.toNat : Int)] w (TakePost r g all ts bad k w) := by
  have hnext := rnext_any h
  by_cases hk : nx ts bad = k
  · cases bad with
    | true => exfalso; exact hk0 hk.symm
    | false =>
      cases ts with
      | nil => exfalso; exact hk0 hk.symm
      | cons t ts' =>
        have hm : 0 < m := by have := h.len; simp at this; omega
        have d0 : w.cell? ⟨r, 0, none⟩ = some (.slice (some ⟨g, o, none⟩) m c) := h.row.cell (j := 0) rfl
        have d1 : w.cell? ⟨r, 1, none⟩ = some (.bool false) := h.row.cell (j := 1) rfl
        have df := h.row.frozen
        have c1 := h.pos hm 1 (by omega)
        have hk1 : (tokCells (t :: ts'))[1]? = some (.string ⟨t.2.toArray⟩) := by simp [tokCells]
        rw [hk1] at c1
        have hc := h.cap
        have hmc := h.mc
        have hmp : (0 : Int) < (m : Int) := by omega
        have H := Lib.hid h
        have HK := Lib.hid hk
        rw [hk] at hnext
        clear hk1 h hk
        go_enter Tryz.func38, Tryz.ntmps38
        go_wp2_with (go_at_call 51; refine hnext.mono ?_; rintro _ wq ⟨rfl, hwq⟩; rw [hwq]; clear hwq)
        · go_ret
          exact .inr ⟨HK.out, t, ts', o, m - 1, 0, _, rfl, rfl, rfl, rfl, by
            have h := H.out.step hrg (o' := o) (fun hp => by omega)
            rw [show c - 1 = 0 from by omega] at h
            exact h⟩
        · go_ret
          exact .inr ⟨HK.out, t, ts', o + 2, m - 1, c - 1, _, rfl, rfl, rfl, rfl, H.out.step hrg (fun _ => rfl)⟩
  · have d1 : w.cell? ⟨r, 1, none⟩ = some (.bool bad) := h.row.cell (j := 1) rfl
    have df := h.row.frozen
    have hkb : (((nx ts bad).toNat : Int) == (k.toNat : Int)) = false := by
      rw [beq_eq_false_iff_ne]
      intro e
      exact hk (UInt8.toNat_inj.1 (by omega))
    have HK := Lib.hid hk
    obtain ⟨z, hz⟩ : ∃ z : Int, ((nx ts bad).toNat : Int) = z := ⟨_, rfl⟩
    rw [hz] at hnext hkb
    clear h hk hz
    go_enter Tryz.func38, Tryz.ntmps38
    go_wp2_with (go_at_call 51; refine hnext.mono ?_; rintro _ wq ⟨rfl, hwq⟩; rw [hwq]; clear hwq)
    go_ret
    exact .inl ⟨HK.out, rfl, rfl⟩
def WordPost (r g : Nat) (all ts : List Tok) (bad : Bool) (l : List UInt8) (w : World) (e : Ending) (w' : World) : Prop :=
  (¬ (∃ ts', ts = (97, l) :: ts' ∧ bad = false) ∧ e = .returned (.bool false) ∧ w' = w) ∨
    (∃ ts' o m c v, ts = (97, l) :: ts' ∧ bad = false ∧ e = .returned (.bool true) ∧ w' = w.setCell ⟨r, 0, none⟩ v ∧ RD w' r all ts' false g o m c)
theorem word_any {w : World} {r : Nat} {all ts : List Tok} {bad : Bool} {g o m c : Nat} (h : RD w r all ts bad g o m c) (hrg : r ≠ g) (l : List UInt8) :
    Calls Tryz.prog 40 #[.pointer (some ⟨r, 0, none⟩), .string ⟨l.toArray⟩] w (WordPost r g all ts bad l w) := by
  have hnext := rnext_any h
  have d0 : w.cell? ⟨r, 0, none⟩ = some (.slice (some ⟨g, o, none⟩) m c) := h.row.cell (j := 0) rfl
  have df := h.row.frozen
  have hc := h.cap
  have hmc := h.mc
  by_cases hk : nx ts bad = 97
  · cases bad with
    | true => exact absurd hk (show ¬ (0 : UInt8) = 97 by decide)
    | false =>
      cases ts with
      | nil => exact absurd hk (show ¬ (0 : UInt8) = 97 by decide)
      | cons t ts' =>
        obtain ⟨tk, tl⟩ := t
        have htk : tk = 97 := hk
        subst htk
        have hm : 0 < m := by have := h.len; simp at this; omega
        have c1 := h.pos hm 1 (by omega)
        have hk1 : (tokCells ((97, tl) :: ts'))[1]? = some (.string ⟨tl.toArray⟩) := by simp [tokCells]
        rw [hk1] at c1
        have hmp : (0 : Int) < (m : Int) := by omega
        have H := Lib.hid h
        have hnext : Calls Tryz.prog 51 #[.pointer (some ⟨r, 0, none⟩)] w fun e w' => e = .returned (.int .u8 97) ∧ w' = w := hnext
        by_cases hl : tl = l
        · subst hl
          clear hk1 h hk
          go_enter Tryz.func40, Tryz.ntmps40
          go_wp2_with (go_at_call 51; refine hnext.mono ?_; rintro _ wq ⟨rfl, hwq⟩; rw [hwq]; clear hwq)
          · go_ret
            exact .inr ⟨ts', o, m - 1, 0, _, rfl, rfl, rfl, rfl, by
              have h := H.out.step hrg (o' := o) (fun hp => by omega)
              rw [show c - 1 = 0 from by omega] at h
              exact h⟩
          · go_ret
            exact .inr ⟨ts', o + 2, m - 1, c - 1, _, rfl, rfl, rfl, rfl, H.out.step hrg (fun _ => rfl)⟩
        · have e1 : (tl == l) = false := beq_eq_false_iff_ne.2 hl
          have HL := Lib.hid hl
          clear hk1 h hk hl
          go_enter Tryz.func40, Tryz.ntmps40
          go_wp2_with (go_at_call 51; refine hnext.mono ?_; rintro _ wq ⟨rfl, hwq⟩; rw [hwq]; clear hwq)
          go_ret
          refine .inl ⟨?_, rfl, rfl⟩
          rintro ⟨ts2, e, _⟩
          injection e with e _
          injection e with _ e
          exact HL.out e
  · have hkb : (((nx ts bad).toNat : Int) == 97) = false := by
      rw [beq_eq_false_iff_ne]
      intro e
      exact hk (UInt8.toNat_inj.1 (by have : (97 : UInt8).toNat = 97 := rfl; omega))
    have HK := Lib.hid hk
    obtain ⟨z, hz⟩ : ∃ z : Int, ((nx ts bad).toNat : Int) = z := ⟨_, rfl⟩
    rw [hz] at hnext hkb
    clear h hk hz d0
    go_enter Tryz.func40, Tryz.ntmps40
    go_wp2_with (go_at_call 51; refine hnext.mono ?_; rintro _ wq ⟨rfl, hwq⟩; rw [hwq]; clear hwq)
    go_ret
    refine .inl ⟨?_, rfl, rfl⟩
    rintro ⟨ts2, rfl, rfl⟩
    exact HK.out rfl
end Go.Proofs.YtadpeebcombjnaaGreatDoor
namespace Go.Proofs.YtadpeebcombjnaaGreatDoor
open Go Go.Proofs Go.RowKit Go.Lib
set_option maxRecDepth 100000
def RNPost (PF : List UInt8 → Option Nat) (l : List UInt8) (w : World) (e : Ending) (w' : World) : Prop := Below w.heap.size w w' ∧
  ((∃ x, PF l = some x ∧ e = .returned (.tuple #[.float .f64 x, .bool true])) ∨ (PF l = none ∧ ∃ x, e = .returned (.tuple #[.float .f64 x, .bool false])))
theorem readNumber_any {lo : Nat} {T : World → Prop} {PF : List UInt8 → Option Nat} (C0 : PFC lo T PF) {w : World} {l : List UInt8} (hT : T w) (hlo : lo ≤ w.heap.size) (hl : l.length ≤ 2001) (hD : Dom l) : Calls Tryz.prog 58 #[.string ⟨l.toArray⟩] w (RNPost PF l w) := by
  have hpf := C0.call w l hT hlo hl hD
  cases hp : PF l with
  | none =>
    rw [hp] at hpf
    have HP := Lib.hid hp
    clear hp
    go_enter Tryz.func58, Tryz.ntmps58
    go_wp2_with fail
    go_at_call 62
    refine hpf.mono ?_
    rintro e w1 ⟨hb, x, g, rfl, hE⟩
    have HB := Lib.hid hb
    clear hb hE hpf
    go_wp2_with fail
    go_quiet (fail)
    go_wp2_with fail
    go_ret2
    exact ⟨⟨HB.out.os, HB.out.tape, HB.out.output, HB.out.size, HB.out.block⟩, .inr ⟨HP.out, _, rfl⟩⟩
  | some x =>
    rw [hp] at hpf
    have HP := Lib.hid hp
    clear hp
    go_enter Tryz.func58, Tryz.ntmps58
    go_wp2_with fail
    go_at_call 62
    refine hpf.mono ?_
    rintro e w1 ⟨hb, rfl⟩
    have HB := Lib.hid hb
    clear hb hpf
    go_wp2_with fail
    go_quiet (fail)
    go_wp2_with fail
    go_ret2
    exact ⟨⟨HB.out.os, HB.out.tape, HB.out.output, HB.out.size, HB.out.block⟩, .inl ⟨_, HP.out, rfl⟩⟩
theorem width_any (d : Nat) (hd : d < 4) (w : World) : Calls Tryz.prog 35 #[.int .i64 (d : Nat)] w fun e w' => e = .returned (.int .i64 (wid d : Nat)) ∧ w' = w := by
  have b0 : bits BinOp.and IntKind.i64 0 1 = 0 := by decide
  have b1 : bits BinOp.and IntKind.i64 1 1 = 1 := by decide
  have b2 : bits BinOp.and IntKind.i64 2 1 = 0 := by decide
  have b3 : bits BinOp.and IntKind.i64 3 1 = 1 := by decide
  match d, hd with
  | 0, _ => go_enter Tryz.func35, Tryz.ntmps35; go_wp2; go_ret; exact ⟨rfl, rfl⟩
  | 1, _ => go_enter Tryz.func35, Tryz.ntmps35; go_wp2; go_ret; exact ⟨rfl, rfl⟩
  | 2, _ => go_enter Tryz.func35, Tryz.ntmps35; go_wp2; go_ret; exact ⟨rfl, rfl⟩
  | 3, _ => go_enter Tryz.func35, Tryz.ntmps35; go_wp2; go_ret; exact ⟨rfl, rfl⟩
theorem leaf1_any (w : World) : Calls Tryz.prog 34 #[.int .i64 1] w fun e w' => e = .returned (.bool true) ∧ w' = w := by
  go_enter Tryz.func34, Tryz.ntmps34
  go_wp2
  go_ret
  exact ⟨rfl, rfl⟩
end Go.Proofs.YtadpeebcombjnaaGreatDoor
