/- Scanner.TokenText: the text of the token that has been read. -/
import Derived.Test.YtadpeebcombjnaaGreatDoorLA
import Derived.Laws.IdiomStrings
namespace Go.Proofs.YtadpeebcombjnaaGreatDoor
open Go Go.Proofs Go.RowKit Go.Lib
set_option maxRecDepth 100000
theorem txt_len {s : ByteArray} {a k : Nat} (h : a ≤ k) (hk : k ≤ s.size) : (txt s a k).length = k - a := by
  unfold txt
  rw [List.length_take, List.length_drop, size_list]; omega
theorem txt_take {s : ByteArray} {a n : Nat} : (txt s a (n + 1)).take (n - a) = txt s a n := by
  unfold txt
  rw [List.take_take]
  congr 1
  omega
/-- What the scanner's cells are when a token has been read. -/
theorem Done.view {base B R : Nat} {s : ByteArray} {w : World} {a n : Nat} {pk : ByteArray} {ef : Value} (h : Done base B R s w a n pk ef) (han : a < n) :
    ∃ (lc : Int) (C : Array Value) (off p e a0 q0 : Nat) (tb : Value) (l : List UInt8), LX base B R s w (min (n + 1) s.size) lc (some (txt s a (n + 1))) (q0 : Int) (ru s n) pk ef C off p e (a0 : Int) tb l ∧ lc = (if n < s.size then 1 else 0) ∧ a0 ≤ q0 ∧ (q0 : Int) + lc = p ∧ p ≤ 1024 ∧
      l.length ≤ off + a0 ∧ off ≤ 2000 ∧ txt s a n = l ++ (s.data.toList.drop (off + a0)).take (q0 - a0) ∧ txt s a (n + 1) = l ++ (s.data.toList.drop (off + a0)).take (p - a0) ∧ Env base s w ∧ n ≤ s.size := by
  obtain ⟨te, hA, hte⟩ := h
  obtain ⟨C, off, p, e, tp, tb, l, hx, hl1, hl2⟩ := hA.lx
  have ht := hte p _ (hx.row.cell hx.scn.pos) (hx.row.cell hx.scn.lcl)
  obtain ⟨a0, e1, e2, e3, e4⟩ := hx.col
  subst e1
  have e4 : txt s a (n + 1) = l ++ (s.data.toList.drop (off + a0)).take (p - a0) := e4
  have hn := hA.kle
  have hele := hx.scn.ele
  have hpe := hx.pe
  have hoe := hx.oe
  have hq := hx.q
  have hsz := hA.env.size
  obtain ⟨q0, hq0⟩ : ∃ q0 : Nat, te = q0 := ⟨te.toNat, by split at ht <;> omega⟩
  subst hq0
  have hlc : (q0 : Int) + (if n < s.size then 1 else 0) = p := by omega
  have haq : a0 ≤ q0 := by omega
  refine ⟨_, C, off, p, e, a0, q0, tb, l, hx, rfl, haq, hlc, by omega, e3, by omega, ?_, e4, hA.env, hn⟩
  rw [← txt_take, e4]
  have hlen : n - a = l.length + (q0 - a0) := by
    have h1 := congrArg List.length e4
    rw [List.length_append, List.length_take, List.length_drop, size_list] at h1
    by_cases hlt : n < s.size
    · rw [txt_len (by omega) (by omega)] at h1
      rw [if_pos hlt] at hlc
      omega
    · rw [txt_end (by omega), txt_len (by omega) hn] at h1
      rw [if_neg hlt] at hlc
      omega
  rw [hlen, List.take_append, List.take_of_length_le (by omega), show l.length + (q0 - a0) - l.length = q0 - a0 from by omega, List.take_take]
  congr 2
  split at hlc <;> omega

set_option maxHeartbeats 2000000 in
theorem tokenText_any {base B R : Nat} {s : ByteArray} {w : World} {a n : Nat} {pk : ByteArray} {ef : Value} (h : Done base B R s w a n pk ef) (han : a < n) :
    Calls Tryz.prog 61 #[.pointer (some ⟨B, 0, none⟩)] w fun e w' => e = .returned (.string ⟨(txt s a n).toArray⟩) ∧ Fr base B R w w' ∧ ∃ te, At base B R s w' n (some a) te (ru s n) pk ef := by
  obtain ⟨lc, C, off, p, e, a0, q0, tb, l, hx, hlc, h1, h2, h3, h4, h5, hT, hT1, hE, hn⟩ := h.view han
  have hele := hx.scn.ele
  have hpe := hx.pe
  have hoe := hx.oe
  have d36 := hx.row.cell hx.scn.tpv
  have d37 := hx.row.cell hx.scn.tev
  have hfr := hx.row.frozen
  have H := Lib.hid hx
  have HT := Lib.hid hT
  have HT1 := Lib.hid hT1
  have HE := Lib.hid hE
  have HLC := Lib.hid hlc
  have hlt : ¬ (q0 : Int) < (a0 : Int) := by omega
  have hqp : q0 ≤ p := by split at hlc <;> omega
  have hlo : ¬ (a0 : Int) < 0 := by omega
  clear h hx hT hT1 hE hlc
  go_enter Tryz.func61, Tryz.ntmps61
  go_wp2
  go_quiet (fail)
  go_wp2_with fail
  have HX := H.out.drewN nq
  have HF := Lib.hid ((Fr.refl base B R w).drewN nq)
  have HEW : Env base s (w.drewN nq) := HE.out.mono HF.out.below
  clear H d36 d37 hfr HE
  generalize w.drewN nq = W at *
  go_at_call 76
  refine (Tryz.Buffer_Len_at 103 _ base B 1033 (byteCells l) W HX.buffer).mono ?_
  rintro e1 W1 ⟨rfl, n2, rfl⟩
  have HX2 := HX.drewN n2
  have HF2 := Lib.hid (HF.out.drewN n2)
  have HEW2 : Env base s (W.drewN n2) := HEW.mono ((Fr.refl base B R W).drewN n2).below
  clear HX HF HEW
  generalize W.drewN n2 = W2 at *
  have d36 := HX2.row.cell HX2.scn.tpv
  have d37 := HX2.row.cell HX2.scn.tev
  have hfr := HX2.row.frozen
  have hslw := fun wx => sliceAt86 B a0 q0 h1 (by omega) wx
  have hbytes : ∀ j, j < q0 - a0 → W2.cell? ⟨B, 1 + a0 + j, none⟩ = some (.int .u8 ((s.data.toList.getD (off + a0 + j) 0).toNat : Int)) := by
    intro j hj
    have := HX2.row.cell (HX2.scn.buf (a0 + j) (by omega))
    rw [← Nat.add_assoc, ← Nat.add_assoc] at this
    exact this
  have HB := Lib.hid hbytes
  have H := Lib.hid HX2
  have HE := Lib.hid HEW2
  clear HX2 hbytes HEW2
  rcases Nat.eq_zero_or_pos l.length with hl0 | hl0
  · have hl : l = [] := List.length_eq_zero_iff.1 hl0
    subst hl
    have hz : ((byteCells ([] : List UInt8)).length : Int) = 0 := rfl
    have hbl : ((s.data.toList.drop (off + a0)).take (q0 - a0)).length = q0 - a0 := by rw [List.length_take, List.length_drop, size_list]; omega
    have hcv : ∀ k, (convert 87 9 (.slice (some ⟨B, 1 + a0, none⟩) (q0 - a0) (1025 - a0))).run Tryz.prog (W2.drewN k) = .ok (.string ⟨((s.data.toList.drop (off + a0)).take (q0 - a0)).toArray⟩) (W2.drewN k) := by
      intro k
      have hc := run_convert_bytes_back (P := Tryz.prog) (W2.drewN k) 87 9 5 ⟨B, 1 + a0, none⟩ (1025 - a0) ((s.data.toList.drop (off + a0)).take (q0 - a0)) Tryz.underlying87 Tryz.underlying5 Tryz.underlying9 (fun j hj => by
        rw [hbl] at hj
        have e1 : (⟨B, 1 + a0, none⟩ : Addr).add j = ⟨B, 1 + a0 + j, none⟩ := by unfold Addr.add; split <;> simp_all
        rw [e1]
        refine (HB.out j hj).trans ?_
        rw [List.getElem_take, List.getElem_drop, List.getD_eq_getElem?_getD, List.getElem?_eq_getElem (by rw [size_list]; omega)]
        rfl)
      rw [hbl] at hc
      exact hc



    go_wp2_with fail
    go_quiet (fail)
    go_wp2_with fail
    go_ret
    have hA : At base B R s (W2.drewN nq) n (some a) (q0 : Int) (ru s n) pk ef := ⟨HE.out.mono ((Fr.refl base B R W2).drewN nq).below, hn, fun x hx => by injection hx with hx; omega, by
      refine ⟨C, off, p, e, (a0 : Int), tb, [], ?_, ?_, ?_⟩
      · have := H.out.drewN nq
        rw [HLC.out] at this
        exact this
      · rw [← HLC.out]; omega
      · rw [← HLC.out]; omega⟩
    refine ⟨?_, HF2.out.drewN nq, _, hA⟩
    have := HT.out
    rw [List.nil_append] at this
    rw [this]
    rfl
  · have hz : ¬ ((byteCells l).length : Int) = 0 := by rw [byteCells_length]; omega
    have hlim : l.length ≤ 100000 := by omega
    have hbw2 : base ≤ W2.heap.size := HE.out.heap
    go_wp2_with fail
    have hbuf := (H.out.drewN 1).buffer
    refine wp_region_still_tail 15 (by kernel_rfl) (by kernel_rfl) ?_
    simp only [List.take_succ_cons, List.take_zero, List.drop_succ_cons, List.drop_zero]
    rw [show ({ heap := W2.heap, tape := W2.tape, drawn := W2.drawn + 1, os := W2.os, output := W2.output } : World) = W2.drew from rfl]
    repeat still_step
    refine wpStill_nil ?_
    go_wp2_with fail
    refine (write_any (fun i => C[i]?) base B 1033 (byteCells l) (byteCells ((s.data.toList.drop (off + a0)).take (q0 - a0))) (1 + a0) (q0 - a0) (1025 - a0) W2.drew hbuf hbw2 (byteCells_one _) (by rw [byteCells_length, List.length_take, List.length_drop, size_list]; omega) (fun j hj => by omega) ?_ (byteCells_one _) (by rw [byteCells_length]; omega)).mono ?_
    · intro j v hj
      have hjl := (List.getElem?_eq_some_iff.1 hj).1
      rw [byteCells_length, List.length_take, List.length_drop, size_list] at hjl
      rw [show 1 + a0 + j = 1 + (a0 + j) from by omega, H.out.scn.buf (a0 + j) (by omega), ← hj]
      simp only [byteCells, List.getElem?_map]
      rw [List.getElem?_take, if_pos (by omega), List.getElem?_drop, List.getD_eq_getElem?_getD, show off + a0 + j = off + (a0 + j) from by omega, List.getElem?_eq_getElem (by rw [size_list]; omega)]
      rfl
    rintro e1 w1 ⟨rfl, hI, hbel, hkept⟩
    rw [← byteCells_append] at hI
    have HI := Lib.hid hI
    obtain ⟨-, v1, lr1, ⟨C1, hC1, g0, g1, g2, gr⟩, hown1, -⟩ := hI
    have hC1 : Row w1 B C1 103 := hC1
    have hscn1 := H.out.scn.three g0 g1 g2 gr
    have hpk1 := (gr 1048 (by omega)).trans H.out.pkc
    have f36 := hC1.cell hscn1.tpv
    have f37 := hC1.cell hscn1.tev
    have ffr := hC1.frozen
    have HF1 : Hid (Fr base B R w w1) := Lib.hid ((HF2.out.drewN 1).trans (Fr.of_write hbel hkept))
    have HKp := Lib.hid hkept
    have HC1 := Lib.hid hC1
    have HS1 := Lib.hid hscn1
    have HP1 := Lib.hid hpk1
    have HO1 := Lib.hid hown1
    have HE1 : Hid (Env base s w1) := Lib.hid (HE.out.mono ((((Fr.refl base B R W2).drewN 1).below).trans hbel))
    clear hC1 hscn1 hpk1 hown1 gr g0 g1 g2 hbel hkept hbuf d36 d37 hfr hslw
    go_wp2_with fail
    have hother : ∀ k, k ≠ B → (w1.setCell ⟨B, 1036, none⟩ (.int .i64 (q0 : Int))).heap[k]? = w1.heap[k]? := fun k hk => set_oth _ _ _ _ _ hk
    obtain ⟨pr, hpr⟩ := H.out.rd
    have hlen2 : (l ++ (s.data.toList.drop (off + a0)).take (q0 - a0)).length = l.length + (q0 - a0) := by rw [List.length_append, List.length_take, List.length_drop, size_list]; omega
    have hLX : LX base B R s (w1.setCell ⟨B, 1036, none⟩ (.int .i64 (q0 : Int))) (min (n + 1) s.size) lc (some (txt s a (n + 1))) (q0 : Int) (ru s n) pk ef (C1.setIfInBounds 1036 (.int .i64 (q0 : Int))) off p e (q0 : Int) v1 (l ++ (s.data.toList.drop (off + a0)).take (q0 - a0)) := by
      refine ⟨H.out.hB, H.out.hR, H.out.ne, HC1.out.set 1036 _, HS1.out.setTp _, (set_ne (by decide) _).trans HP1.out, ⟨pr, (hother R (fun e => H.out.ne e.symm)).trans (HKp.out R _ hpr (fun e => H.out.ne (Option.some.inj e).symm) (fun c f e => by injection e with _ e2; exact absurd e2 (by decide)))⟩, ?_, H.out.pe, H.out.oe, H.out.q, by rw [hlen2]; omega, ?_⟩
      · have h := own_far HO1.out HC1.out (by decide) hother
        rwa [byteCells_length] at h
      · refine ⟨q0, rfl, hqp, by rw [hlen2]; omega, ?_⟩
        rw [HT1.out, List.append_assoc]
        congr 1
        rw [show p - a0 = (q0 - a0) + (p - q0) from by omega, List.take_add, List.drop_drop, show off + a0 + (q0 - a0) = off + q0 from by omega]
    have HF3 := Lib.hid (HF1.out.setB (j := 1036) H.out.hB (.int .i64 (q0 : Int)))
    have HE3 : Hid (Env base s (w1.setCell ⟨B, 1036, none⟩ (.int .i64 (q0 : Int)))) := Lib.hid (HE1.out.mono ((Below.refl base w1).setCell (p := ⟨B, 1036, none⟩) H.out.hB _))
    go_at_call 78
    refine (Tryz.Buffer_String_at 103 _ base B 1033 (l ++ (s.data.toList.drop (off + a0)).take (q0 - a0)) _ hLX.buffer).mono ?_
    rintro e2 w3 ⟨rfl, n3, rfl⟩
    have hLX3 := hLX.drewN n3
    have HF4 := Lib.hid (HF3.out.drewN n3)
    have HE4 : Hid (Env base s ((w1.setCell ⟨B, 1036, none⟩ (.int .i64 (q0 : Int))).drewN n3)) := Lib.hid (HE3.out.mono ((Fr.refl base B R _).drewN n3).below)
    have HX3 := Lib.hid hLX3
    clear hLX hLX3
    go_wp2_with fail
    go_ret
    have hfin := HX3.out
    rw [HLC.out] at hfin
    have hb1 : (if n < s.size then (1 : Int) else 0) ≤ (p : Int) := by rw [← HLC.out]; omega
    have hb2 : (q0 : Int) + (if n < s.size then (1 : Int) else 0) ≤ (p : Int) := by rw [← HLC.out]; omega
    have hT := HT.out
    rw [hT]
    exact ⟨rfl, HF4.out, (q0 : Int), HE4.out, hn, fun x hx => by injection hx with hx; omega, _, off, p, e, (q0 : Int), _, _, hfin, hb1, hb2⟩
end Go.Proofs.YtadpeebcombjnaaGreatDoor
namespace Go.Proofs.YtadpeebcombjnaaGreatDoor
open Go Go.Proofs Go.RowKit Go.Lib
set_option maxRecDepth 100000
/-- An error that is not nil. -/
def IsErr (v : Value) : Prop := ∃ t d, v = .iface t d
/-- The lexer is ready to read on from place k. -/
def Ready (base B R : Nat) (s : ByteArray) (w : World) (k : Nat) : Prop :=
  k ≤ s.size ∧ Env base s w ∧ base ≤ B ∧ (∃ x, w.cell? ⟨1, 0, none⟩ = some (.string x)) ∧
    ∃ ef, (k = 0 ∧ ∃ te lc, Lx base B R s w 0 lc none te (-2) ⟨#[]⟩ ef) ∨ ∃ st te, At base B R s w k st te (ru s k) ⟨#[]⟩ ef
theorem Lx.setEf {base B R : Nat} {s : ByteArray} {w : World} {q : Nat} {lc : Int} {col : Option (List UInt8)} {te ch : Int} {pk : ByteArray} {ef : Value} (h : Lx base B R s w q lc col te ch pk ef) (v : Value) : Lx base B R s (w.setCell ⟨B, 1039, none⟩ v) q lc col te ch pk v := by
  obtain ⟨C, off, p, e, tp, tb, l, hx, hlc⟩ := h
  have hk : ∀ g, g ≠ B → (w.setCell ⟨B, 1039, none⟩ v).heap[g]? = w.heap[g]? := fun g hg => set_oth _ _ _ _ _ hg
  exact ⟨_, off, p, e, tp, tb, l, ⟨hx.hB, hx.hR, hx.ne, hx.row.set 1039 v, hx.scn.setEf v, (set_ne (by decide) _).trans hx.pkc, hx.rd.imp fun _ hr => (hk R (fun e => hx.ne e.symm)).trans hr, own_far hx.own hx.row (by decide) hk, hx.pe, hx.oe, hx.q, hx.ll, hx.col⟩, hlc⟩
theorem Lx.alloc {base B R : Nat} {s : ByteArray} {w : World} {q : Nat} {lc : Int} {col : Option (List UInt8)} {te ch : Int} {pk : ByteArray} {ef : Value} (h : Lx base B R s w q lc col te ch pk ef) (o : Obj) : Lx base B R s (w.alloc o) q lc col te ch pk ef := by
  obtain ⟨C, off, p, e, tp, tb, l, hx, hlc⟩ := h
  have hk : ∀ (g : Nat) (o' : Obj), w.heap[g]? = some o' → (w.alloc o).heap[g]? = some o' := fun g o' hg => (Below.heap_alloc w o g (lt_of_row hg)).trans hg
  obtain ⟨h1, h2⟩ := hx.own
  refine ⟨C, off, p, e, tp, tb, l, ⟨hx.hB, hx.hR, hx.ne, hk _ _ hx.row, hx.scn, hx.pkc, hx.rd.imp fun _ hr => hk _ _ hr, ⟨h1, ?_⟩, hx.pe, hx.oe, hx.q, hx.ll, hx.col⟩, hlc⟩
  rcases h2 with h2 | ⟨g, cap, cur, hv, hg, hh, r⟩
  · exact .inl h2
  · exact .inr ⟨g, cap, cur, hv, hg, hk _ _ hh, r⟩
/-- The cells that the lexer's own steps touch, and what peek finds, when it is ready and a new block has been laid. -/
theorem Ready.open {base B R : Nat} {s : ByteArray} {w : World} {k : Nat} (h : Ready base B R s w k) (o : Obj) (v : Value) :
    ∃ ef0 st0, w.cell? ⟨B, 1048, none⟩ = some (.string ⟨#[]⟩) ∧ w.cell? ⟨B, 1039, none⟩ = some ef0 ∧ (∀ j, w.frozen? ⟨B, j, none⟩ = false) ∧ B < w.heap.size ∧ R < w.heap.size ∧
      Calls Tryz.prog 65 #[.pointer (some ⟨B, 0, none⟩)] ((w.alloc o).setCell ⟨B, 1039, none⟩ v) fun e w' => e = .returned (.int .i32 (ru s k)) ∧ Fr base B R ((w.alloc o).setCell ⟨B, 1039, none⟩ v) w' ∧ ∃ st ch' , At base B R s w' k st st0 ch' ⟨#[]⟩ v := by
  obtain ⟨hk, hE, hB, hG, ef, ⟨rfl, te, lc, hx⟩ | ⟨st, te, hx⟩⟩ := h
  · have hE2 : Env base s ((w.alloc o).setCell ⟨B, 1039, none⟩ v) := hE.mono (((Below.refl base w).alloc hE.heap o).setCell (p := ⟨B, 1039, none⟩) hB v)
    have hp := peek_first hE2 ((hx.alloc o).setEf v)
    obtain ⟨C, off, p, e, tp, tb, l, hy, hlc⟩ := hx
    exact ⟨ef, te, hy.row.cell hy.pkc, hy.row.cell hy.scn.efv, hy.row.frozen, lt_of_row hy.row, hy.rd.elim fun _ hr => lt_of_row hr, hp.mono fun e w' ⟨h1, h2, h3⟩ => ⟨h1, h2, _, _, h3⟩⟩
  · have hA := (hx.alloc o).set 1039 v (by decide) (fun _ _ _ _ _ _ _ hs => hs.setEf v)
    have hb := ru_bounds hE k
    have hp := peek_later hA (by omega) (by omega)
    obtain ⟨C, off, p, e, tp, tb, l, hy, hlc⟩ := hx.lx
    exact ⟨ef, te, hy.row.cell hy.pkc, hy.row.cell hy.scn.efv, hy.row.frozen, lt_of_row hy.row, hy.rd.elim fun _ hr => lt_of_row hr, hp.mono fun e w' ⟨h1, h2⟩ => ⟨h1, h2 ▸ Fr.refl _ _ _ _, st, ru s k, h2 ▸ hA⟩⟩

theorem alloc_cell (w : World) (o : Obj) {B : Nat} (j : Nat) (h : B < w.heap.size) : (w.alloc o).cell? ⟨B, j, none⟩ = w.cell? ⟨B, j, none⟩ ∧ (w.alloc o).frozen? ⟨B, j, none⟩ = w.frozen? ⟨B, j, none⟩ := by
  unfold World.cell? World.frozen?
  rw [Below.heap_alloc w o B h]
  exact ⟨rfl, rfl⟩
theorem low_cell {base : Nat} {w w' : World} {g j : Nat} {v : Value} (hb : Below base w w') (hg : g < base) (h : w.cell? ⟨g, j, none⟩ = some v) : w'.cell? ⟨g, j, none⟩ = some v := by
  unfold World.cell? at h ⊢
  rw [hb.block g hg]
  exact h
set_option maxHeartbeats 2000000 in
theorem lexNext {base B R : Nat} {s : ByteArray} {w : World} {k : Nat} (h : Ready base B R s w k) {j : Bool} {ts : List Tok} (ht : toksAt ((By s).drop k) j = some ts) (hz : ∀ t ∈ ts, t.1 = 49 → ∀ r, t.2 = 48 :: r → digN r = 0) :
    Calls Tryz.prog 55 #[.pointer (some ⟨B, 0, none⟩)] w fun e w' => Fr base B R w w' ∧ ((ts = [] ∧ ∃ v, IsErr v ∧ e = .returned (.tuple #[.string ⟨#[]⟩, v])) ∨
      ∃ t ts', ts = t :: ts' ∧ e = .returned (.tuple #[.string ⟨t.2.toArray⟩, .nilIface]) ∧ ∃ n j', Ready base B R s w' n ∧ toksAt ((By s).drop n) j' = some ts') := by
  obtain ⟨a, n, hka, hbl, hnb, hway, hres⟩ : ∃ a n, k ≤ a ∧ (∀ i, k ≤ i → i < a → blI (ru s i) = true) ∧ blI (ru s a) = false ∧ (a = s.size ∨ (a < n ∧ n ≤ s.size ∧ TWay s a n)) ∧
      ((a = s.size ∧ ts = []) ∨ (a < n ∧ n ≤ s.size ∧ ∃ t ts' j', ts = t :: ts' ∧ t.2 = txt s a n ∧ toksAt ((By s).drop n) j' = some ts')) := by
    rcases toks_view _ k j ts rfl h.1 ht hz with ⟨e, hall⟩ | ⟨t, ts', a, n, j', e, h1, h2, h3, h4, h5, h6, h7, h8⟩
    · exact ⟨s.size, 0, h.1, hall, by rw [ru_ge (Nat.le_refl _)]; decide, .inl rfl, .inl ⟨rfl, e⟩⟩
    · exact ⟨a, n, h1, h4, h5, .inr ⟨h2, h3, h7⟩, .inr ⟨h2, h3, t, ts', j', e, h6, h8⟩⟩
  obtain ⟨hk, hE, hB, ⟨gx, hgx⟩, -⟩ := id h
  have hop := h.open (.cells #[.nilIface] 45)
  obtain ⟨ef0, st0, d48, d39, hfz, hBw, hRw, -⟩ := hop .nilFunc
  obtain ⟨V, hV⟩ : ∃ V, w.heap.size = V := ⟨_, rfl⟩
  have HR := Lib.hid hres
  have HW := Lib.hid hway
  have HBL := Lib.hid hbl
  have HNB := Lib.hid hnb
  have HOP := Lib.hid hop
  have HE := Lib.hid hE
  have HGX := Lib.hid hgx
  have e39 := (alloc_cell w (.cells #[.nilIface] 45) 1039 hBw).1.trans d39
  have efz : ∀ j, (w.alloc (.cells #[.nilIface] 45)).frozen? ⟨B, j, none⟩ = false := fun j => (alloc_cell w (.cells #[.nilIface] 45) j hBw).2.trans (hfz j)
  clear hres hway hbl hnb hop h hz ht hE hgx
  go_enter Tryz.func55, Tryz.ntmps55
  go_wp2_with fail
  go_at_call 60
  obtain ⟨_, st1, _, _, _, _, _, hpk⟩ := HOP.out (.func (.func 59) #[] #[.pointer (some ⟨V, 0, none⟩)])
  refine (scan_any hpk hB hka HBL.out HNB.out HW.out).mono ?_
  rintro e w2 ⟨hF, hres⟩
  have hrow1 : Row ((w.alloc (.cells #[.nilIface] 45)).setCell ⟨B, 1039, none⟩ (.func (.func 59) #[] #[.pointer (some ⟨V, 0, none⟩)])) V #[.nilIface] 45 := (set_oth _ _ _ _ _ (by omega)).trans (hV ▸ Row.new w #[.nilIface] 45)
  have hrow2 : Row w2 V #[.nilIface] 45 := hF.keep V _ hrow1 (by omega) (by omega) (fun c f e => by injection e with _ e2; exact absurd e2 (by decide))
  have hF2 : Fr base B R w w2 := (((Fr.refl base B R w).alloc HE.out.heap _).setB hB _).trans hF
  have hgx2 := low_cell hF2.below (by have := HE.out.low; omega) HGX.out
  have dV := hrow2.cell (j := 0) rfl
  have hfV := hrow2.frozen
  have HF2 := Lib.hid hF2
  have HGX2 := Lib.hid hgx2
  clear hF hF2 hrow1 hrow2 hpk hgx2
  rcases hres with ⟨ha, rfl⟩ | ⟨ha, ⟨t, ht, rfl⟩, hD⟩
  · have hts : ts = [] := by
      rcases HR.out with ⟨_, h⟩ | ⟨h1, h2, _⟩
      · exact h
      · omega
    have HTS := Lib.hid hts
    have hgx3 := HGX2.out
    clear ha hts
    go_wp2_with fail
    go_quiet (fail)
    go_wp2_with fail
    go_ret2
    exact ⟨HF2.out.drewN nq, .inl ⟨HTS.out, _, ⟨_, _, rfl⟩, rfl⟩⟩
  · obtain ⟨han, hns, t', ts', j', e1, e2, e3⟩ : a < n ∧ n ≤ s.size ∧ ∃ t ts' j', ts = t :: ts' ∧ t.2 = txt s a n ∧ toksAt ((By s).drop n) j' = some ts' := by
      rcases HR.out with ⟨h, _⟩ | h
      · omega
      · exact h
    have hne : ¬ t = -1 := ht
    have htt := tokenText_any hD han
    have HE1 := Lib.hid e1
    have HE2 := Lib.hid e2
    have HE3 := Lib.hid e3
    clear e1 e2 e3 ha hD
    go_wp2_with (go_at_call 61; refine htt.mono ?_; rintro e w3 ⟨rfl, hF3, te3, hA3⟩; have hF3 := Lib.hid hF3; have hA3 := Lib.hid hA3)
    go_ret2
    have hF4 := HF2.out.trans hF3.out
    refine ⟨hF4, .inr ⟨t', ts', HE1.out, ?_, n, j', ⟨hns, hA3.out.env, hB, ⟨_, low_cell hF4.below (by have := HE.out.low; omega) HGX.out⟩, _, .inr ⟨_, _, hA3.out⟩⟩, HE3.out⟩⟩
    have := HE2.out
    rw [this]
    rfl
end Go.Proofs.YtadpeebcombjnaaGreatDoor
