/- bytes.Buffer.Write at the text scanner's token buffer, where the bytes to write lie in the scanner's own block. -/
import Derived.Test.YtadpeebcombjnaaGreatDoorL0L2
import Derived.Test.YtadpeebcombjnaaGreatDoorH
import Derived.Lib.ByteType
import Derived.Lib.BufferAt
import Derived.Lib.BufferOwn
import Derived.Lib.Walk
import Derived.Lib.BufferWrite
import Derived.Lib.BufferSrc
import Derived.Laws.IdiomCopy
import Derived.Lib.LazyBuf
import Derived.LaidEql
import Derived.Test.YtadpeebcombjnaaGreatDoorS3
namespace Go.Proofs.YtadpeebcombjnaaGreatDoor
open Go Go.Proofs Go.RowKit Go.Lib
set_option maxRecDepth 100000
theorem info5 : (Tryz.prog.info? 5).map (·.size) = some 1 := by kernel_rfl
set_option maxHeartbeats 6400000 in
theorem write_any (R : Nat → Option Value) (B b q : Nat) (bs cs : List Value) (o n c : Nat) (w : World) (h : LibA.IsBuffer 103 R 5 B b q bs w) (hBw : B ≤ w.heap.size) (h1 : ∀ v ∈ bs, v.oneCell' = true)
    (hn : cs.length = n) (hout : ∀ j, j < n → o + j < q ∨ q + 3 ≤ o + j) (hsrc : ∀ j v, cs[j]? = some v → R (o + j) = some v) (h1c : ∀ v ∈ cs, v.oneCell' = true) (hlim : bs.length + n ≤ 140737488355328) :
    Calls Tryz.prog 77 #[.pointer (some ⟨b, q, none⟩), .slice (some ⟨b, o, none⟩) n c] w fun e w' => e = .returned (.tuple #[.int .i64 n, .nilIface]) ∧ LibA.IsBuffer 103 R 5 B b q (bs ++ cs) w' ∧ Below B w w' ∧ Lib.OthersKept 5 (some b) w w' := by
  have hrest : ∀ (W : World) (xs : List Value), LibA.IsBuffer 103 R 5 B b q xs W → ∀ j v, cs[j]? = some v → W.cell? ((⟨b, o, none⟩ : Addr).add j) = some v := by
    intro W xs hW j v hj
    obtain ⟨-, v0, lr, hbk, -, -⟩ := hW
    have hadd : (⟨b, o, none⟩ : Addr).add j = ⟨b, o + j, none⟩ := by unfold Addr.add; split <;> simp_all
    have hlt : j < n := by
      rw [← hn]
      exact (List.getElem?_eq_some_iff.1 hj).1
    rw [hadd, hbk.rest (o + j) (hout j hlt), hsrc j v hj]
  obtain ⟨hB, v0, lr, hbk, -, -⟩ := id h
  have c2 : w.cell? ⟨b, q + 2, none⟩ = some (.int .i8 lr) := hbk.c2
  have f2 : w.frozen? ⟨b, q + 2, none⟩ = false := hbk.f (q + 2)
  have h' := h.setLast 0
  have hbel0 : Below B w (w.setCell ⟨b, q + 2, none⟩ (.int .i8 0)) := (Below.refl B w).setCell (p := ⟨b, q + 2, none⟩) hB _
  have hk0 : Lib.OthersKept 5 (some b) w (w.setCell ⟨b, q + 2, none⟩ (.int .i8 0)) := (Lib.OthersKept.refl _ _ w).setCell ⟨b, q + 2, none⟩ rfl _
  have hBw' : B ≤ (w.setCell ⟨b, q + 2, none⟩ (.int .i8 0)).heap.size := by simpa [World.setCell] using hBw
  clear hbk v0
  by_cases hs0 : n = 0
  · subst hs0
    have hc0 : cs = [] := List.eq_nil_of_length_eq_zero hn
    subst hc0
    have hce : ∀ d dLen dCap W, (Builtin.copy_ #[87, 87] 3 #[.slice d dLen dCap, .slice (some ⟨b, o, none⟩) 0 c]).run Tryz.prog W = .ok (goInt 0) W := fun d dLen dCap W => run_copy_none W 87 87 3 5 d (some ⟨b, o, none⟩) dLen dCap 0 c Tryz.underlying87 info5 (by simp)
    have hT : ∀ W, LibA.IsBuffer 103 R 5 B b q bs W → Calls Tryz.prog 91 #[.pointer (some ⟨b, q, none⟩), .int .i64 0] W _ := fun W hW => Tryz.Buffer_tryGrow_at 103 R B b q 0 bs W hW
    clear hrest
    go_enter Tryz.func77, Tryz.ntmps77
    go_wp2_with (go_at_call 91; refine (hT _ ?_).mono ?_)
    · exact h'
    rintro e W1 (⟨rfl, xs, hxl, hI, hbel, hk, hg⟩ | ⟨rfl, rfl, hnr⟩)
    · clear h' c2 f2 hT
      have hx0 : xs = [] := List.eq_nil_of_length_eq_zero hxl
      subst hx0
      rw [List.append_nil] at hI
      obtain ⟨-, lr2, hc⟩ := hI.cases
      rcases hc with ⟨hb0, hbk2⟩ | ⟨g, cap, cur, hbk2, -, -, hnc, hcm, -, -, -⟩
      · subst hb0
        have d0 : W1.cell? ⟨b, q, none⟩ = some (.slice none 0 0) := hbk2.c0
        go_wp2
        all_goals (go_ret2; first | exact ⟨rfl, hI, hbel0.trans hbel, hk0.trans hk⟩ | exact ⟨by simp, by simpa using hI, hbel0.trans hbel, hk0.trans hk⟩)
      · have d0 : W1.cell? ⟨b, q, none⟩ = some (.slice (some ⟨g, 0, none⟩) bs.length cap) := hbk2.c0
        unfold maxLen at hcm
        go_wp2
        all_goals (go_ret2; first | exact ⟨rfl, hI, hbel0.trans hbel, hk0.trans hk⟩ | exact ⟨by simp, by simpa using hI, hbel0.trans hbel, hk0.trans hk⟩)
    · obtain ⟨_, _, _, _, hlt⟩ := hnr
      omega
  · go_enter Tryz.func77, Tryz.ntmps77
    go_wp2_with (go_at_call 91; refine (Tryz.Buffer_tryGrow_at 103 R B b q n bs _ ?_).mono ?_)
    · exact h'
    rintro e W1 (⟨rfl, xs, hxl, hI, hbel, hk, hg⟩ | ⟨rfl, rfl, hnr⟩)
    · clear hg
      have hbelW := hbel0.trans hbel
      have hkW := hk0.trans hk
      have hsrc1 := hrest W1 _ hI
      clear h' hbel hbel0 hBw' c2 f2 hrest
      obtain ⟨-, lr2, hc⟩ := hI.cases
      rcases hc with ⟨hnil, -⟩ | ⟨g, cap, cur, hbk2, hBg, hg, hnc, hcm, hcs, htk, hgb⟩
      · exact absurd (congrArg List.length hnil) (by rw [List.length_append, hxl, List.length_nil]; omega)
      · rw [List.length_append, hxl] at hbk2 hnc htk
        have d0 : W1.cell? ⟨b, q, none⟩ = some (.slice (some ⟨g, 0, none⟩) (bs.length + n) cap) := hbk2.c0
        have hne : ¬ cap = bs.length := by omega
        have hcp := run_copy_row (P := Tryz.prog) W1 87 87 3 5 g bs.length n (cap - bs.length) ⟨b, o, none⟩ n c cur 5 cs Tryz.underlying87 info5 hg (by rw [hn]; exact (Nat.min_self n).symm) hsrc1 (by rw [hn]; omega) h1c
        rw [hn] at hcp
        have hcm' := hcm
        unfold maxLen at hcm'
        clear hsrc1
        go_wp2
        go_ret2
        obtain ⟨r1, r2⟩ := LibA.written_end (news := cs) (l := bs.length) hB (by rw [hn]; exact hbk2) hBg hg hcm hcs hgb (by rw [hn]; exact hnc)
        have e1 : cur.toList.take bs.length = bs := by
          have h3 := congrArg (List.take bs.length) htk
          rwa [List.take_take, Nat.min_eq_left (Nat.le_add_right _ _), List.take_left' rfl] at h3
        rw [e1, hn] at r1 r2
        refine ⟨rfl, ?_, ?_, hkW.setRow hg _⟩ <;> rw [e1, ← List.append_assoc]
        · exact r1
        · exact hbelW.trans r2
    · go_wp2_with (go_at_call 92; refine (Tryz.Buffer_grow_at 103 R B b q n bs _ ?_ ?_ ?_ h1 hlim).mono ?_)
      · exact h'
      · exact hnr
      · exact hBw'
      rintro e W1 ⟨rfl, xs, hxl, hI, hbel, hk, hg⟩
      clear hg
      have hbelW := hbel0.trans hbel
      have hkW := hk0.trans hk
      have hsrc1 := hrest W1 _ hI
      clear h' hbel hbel0 hBw' c2 f2 hrest hnr
      obtain ⟨-, lr2, hc⟩ := hI.cases
      rcases hc with ⟨hnil, -⟩ | ⟨g, cap, cur, hbk2, hBg, hg, hnc, hcm, hcs, htk, hgb⟩
      · exact absurd (congrArg List.length hnil) (by rw [List.length_append, hxl, List.length_nil]; omega)
      · rw [List.length_append, hxl] at hbk2 hnc htk
        have d0 : W1.cell? ⟨b, q, none⟩ = some (.slice (some ⟨g, 0, none⟩) (bs.length + n) cap) := hbk2.c0
        have hne : ¬ cap = bs.length := by omega
        have hcp := run_copy_row (P := Tryz.prog) W1 87 87 3 5 g bs.length n (cap - bs.length) ⟨b, o, none⟩ n c cur 5 cs Tryz.underlying87 info5 hg (by rw [hn]; exact (Nat.min_self n).symm) hsrc1 (by rw [hn]; omega) h1c
        rw [hn] at hcp
        have hcm' := hcm
        unfold maxLen at hcm'
        clear hsrc1
        go_wp2
        go_ret2
        obtain ⟨r1, r2⟩ := LibA.written_end (news := cs) (l := bs.length) hB (by rw [hn]; exact hbk2) hBg hg hcm hcs hgb (by rw [hn]; exact hnc)
        have e1 : cur.toList.take bs.length = bs := by
          have h3 := congrArg (List.take bs.length) htk
          rwa [List.take_take, Nat.min_eq_left (Nat.le_add_right _ _), List.take_left' rfl] at h3
        rw [e1, hn] at r1 r2
        refine ⟨rfl, ?_, ?_, hkW.setRow hg _⟩ <;> rw [e1, ← List.append_assoc]
        · exact r1
        · exact hbelW.trans r2
end Go.Proofs.YtadpeebcombjnaaGreatDoor
namespace Go.Proofs.YtadpeebcombjnaaGreatDoor
open Go Go.Proofs Go.RowKit Go.Lib
set_option maxRecDepth 100000
theorem fullRune_none (a : Addr) (c : Nat) (w : World) :
    Calls Tryz.prog 82 #[.slice (some a) 0 c] w fun e w' => e = .returned (.bool false) ∧ w = w' := by
  go_enter Tryz.func82, Tryz.ntmps82
  go_wp2
  go_ret
  exact ⟨rfl, rfl⟩
theorem fullRune_ascii (b o n c : Nat) (x : Nat) (w : World) (hn : 0 < n) (hn2 : n ≤ 100000) (hx : x < 128) (hc : w.cell? ⟨b, o, none⟩ = some (.int .u8 (x : Nat)))
    (hF : w.cell? ⟨3, x, none⟩ = some (.int .u8 240)) :
    Calls Tryz.prog 82 #[.slice (some ⟨b, o, none⟩) n c] w fun e w' => e = .returned (.bool true) ∧ ∃ k, w' = w.drewN k := by
  go_enter Tryz.func82, Tryz.ntmps82
  go_wp2
  go_ret
  exact ⟨rfl, 0, rfl⟩
theorem drewN_two (w : World) (a b : Nat) : (w.drewN a).drewN b = w.drewN (a + b) := World.drewN_drewN ..
theorem slice_from (s : ByteArray) (i : Nat) (h : i ≤ s.size) (w : World) :
    (Instr.slice 9 (.string s) (some (.int .i64 (i : Int))) none none).run Tryz.prog w = .ok (.string (s.extract i s.size)) w := by
  rw [run_slice_string_from_if w 9 s .i64 i Tryz.underlying9, if_pos (by omega)]
  rfl
theorem run_copy_row_string_min (w : World) (g o dLen dCap n : Nat) (s : ByteArray) (cur : Array Value) (t : TypeId)
    (hn : Nat.min s.size dLen = n) (hg : w.heap[g]? = some (.cells cur t (0, 0))) (hfit : o + n ≤ cur.size) :
    (Builtin.copy_ #[87, 9] 3 #[.slice (some ⟨g, o, none⟩) dLen dCap, .string s]).run Tryz.prog w =
      .ok (goInt n) (w.setRow g (cur.toList.take o ++ byteCells (s.data.toList.take n) ++ cur.toList.drop (o + n)).toArray) := by
  have hns : n ≤ s.data.toList.length := by rw [size_list, ← hn]; exact Nat.min_le_left _ _
  have hlen : (byteCells (s.data.toList.take n)).length = n := by rw [byteCells_length, List.length_take]; omega
  have hst := run_storeCells_at Tryz.prog g o t (byteCells (s.data.toList.take n)) 0 cur w hg (by rw [hlen]; simpa using hfit) (byteCells_one _)
  have htk : List.take n (List.map (fun b : UInt8 => Value.int IntKind.u8 (b.toNat : Int)) s.data.toList) = byteCells (s.data.toList.take n) := by
    rw [← List.map_take]; rfl
  rw [hlen] at hst
  simp only [Nat.add_zero] at hst
  cases hq : Tryz.prog.info? 5 with
  | none => have := info5; simp [hq] at this
  | some i =>
    simp [Builtin.copy_, run_underlying Tryz.underlying87, Builtin.lenOf, Builtin.firstCells, sizeOf, typeInfo, hq, hn]
    rw [htk, hst]
    simp [Result.andThen]
/-- Cells laid into a row from place o on. -/
def lay (C : Array Value) (o : Nat) (vs : List Value) : Array Value := (C.toList.take o ++ vs ++ C.toList.drop (o + vs.length)).toArray
theorem read_some (s : ByteArray) (i : Nat) (pr : Int) (R b o len cap n : Nat) (T : TypeId) (C : Array Value) (w : World) (hR : Row w R #[.string s, .int .i64 (i : Nat), .int .i64 pr] 126) (hb : Row w b C T) (hbR : b ≠ R)
    (hi : i < s.size) (hs : s.size ≤ 100000) (hn : Nat.min (s.size - i) len = n) (hC : o + len ≤ C.size) :
    Calls Tryz.prog 177 #[.pointer (some ⟨R, 0, none⟩), .slice (some ⟨b, o, none⟩) len cap] w fun e w' => e = .returned (.tuple #[.int .i64 (n : Nat), .nilIface]) ∧
      Row w' R #[.string s, .int .i64 (i + n : Nat), .int .i64 (-1)] 126 ∧ Row w' b (lay C o (byteCells ((s.data.toList.drop i).take n))) T ∧ Mod (fun k => k = R ∨ k = b) w w' := by
  have c0 := hR.cell (j := 0) rfl
  have c1 := hR.cell (j := 1) rfl
  have c2 := hR.cell (j := 2) rfl
  have hfr := hR.frozen
  have HR := Lib.hid hR
  have HB := Lib.hid hb
  clear hR hb
  go_enter Tryz.func177, Tryz.ntmps177
  go_wp2
  go_quiet (fail)
  go_wp2
  have hR1 : Row (((w.drewN nq).setCell ⟨R, 2, none⟩ (.int .i64 (-1)))) R #[.string s, .int .i64 (i : Nat), .int .i64 (-1)] 126 := Row.set (w := w.drewN nq) HR.out 2 (.int .i64 (-1))
  have hb1 : Row (((w.drewN nq).setCell ⟨R, 2, none⟩ (.int .i64 (-1)))) b C T := Row.far (w := w.drewN nq) HB.out (p := ⟨R, 2, none⟩) hbR (.int .i64 (-1))
  have hm1 : Mod (fun k => k = R ∨ k = b) w ((w.drewN nq).setCell ⟨R, 2, none⟩ (.int .i64 (-1))) := ((Mod.refl _ w).drewN nq).setCell (fun _ => .inl rfl) _
  generalize ((w.drewN nq).setCell ⟨R, 2, none⟩ (.int .i64 (-1))) = W at hR1 hb1 hm1 ⊢
  clear c0 c1 c2 hfr HR HB
  have d0 := hR1.cell (j := 0) rfl
  have d1 := hR1.cell (j := 1) rfl
  have dfr := hR1.frozen
  have hnl : n ≤ len := by rw [← hn]; exact Nat.min_le_right _ _
  have hns : n ≤ s.size - i := by rw [← hn]; exact Nat.min_le_left _ _
  have hcp := run_copy_row_string_min W.drew b o len cap n (s.extract i s.size) C T (by rw [extract_size]; exact hn) hb1 (by omega)
  rw [extract_list] at hcp
  clear hn
  have hsl := slice_from s i (by omega)
  have HR := Lib.hid hR1
  have HB := Lib.hid hb1
  clear hR1 hb1
  refine wp_region_still_tail 10 (by kernel_rfl) (by kernel_rfl) ?_
  simp only [List.take_succ_cons, List.take_zero, List.drop_succ_cons, List.drop_zero]
  rw [show ({ heap := W.heap, tape := W.tape, drawn := W.drawn + 1, os := W.os, output := W.output } : World) = W.drew from rfl]
  repeat still_step
  refine wpStill_nil ?_
  have hR2 : Row W.drew R #[.string s, .int .i64 (i : Nat), .int .i64 (-1)] 126 := HR.out
  have hb2 : Row W.drew b C T := HB.out
  have hm2 := hm1.drew
  clear d0 d1 dfr HR HB hm1 hsl
  generalize W.drew = W2 at hcp hR2 hb2 hm2 ⊢
  have d1 : W2.cell? ⟨R, 1, none⟩ = some (.int .i64 (i : Nat)) := hR2.cell (j := 1) rfl
  have dfr := hR2.frozen
  have HR := Lib.hid hR2
  have HB := Lib.hid hb2
  have HM := Lib.hid hm2
  clear hR2 hb2 hm2
  generalize hCC : (List.take o C.toList ++ byteCells ((s.data.toList.drop i).take n) ++ List.drop (o + n) C.toList).toArray = CC at hcp
  have HCC := Lib.hid hCC
  clear hCC
  have e1 : (W2.setRow b CC).cell? ⟨R, 1, none⟩ = some (.int .i64 (i : Nat)) := (cell_setRow_other W2 b CC ⟨R, 1, none⟩ (fun h => hbR h.symm)).trans d1
  have hR3 : Row (W2.setRow b CC) R #[.string s, .int .i64 (i : Nat), .int .i64 (-1)] 126 := (setRow_other W2 b R CC (fun h => hbR h.symm)).trans HR.out
  have hb3 : Row (W2.setRow b CC) b CC T := setRow_heap W2 b C CC T (0, 0) HB.out
  have hm3 := HM.out.setRow (g := b) (fun _ => .inr rfl) CC
  generalize W2.setRow b CC = W3 at hcp e1 hR3 hb3 hm3
  have f3 := hR3.frozen
  have HR3 := Lib.hid hR3
  have HB3 := Lib.hid hb3
  have HM3 := Lib.hid hm3
  clear hR3 hb3 hm3 d1 dfr
  go_wp2
  go_ret2
  have hv : (i : Int) + (n : Int) = ((i + n : Nat) : Int) := by omega
  refine ⟨rfl, ?_, ?_, HM3.out.setCell (fun _ => .inl rfl) _⟩
  · rw [hv]
    exact HR3.out.set 1 (.int .i64 (i + n : Nat))
  · rw [hv]
    have h := HB3.out.far (p := ⟨R, 1, none⟩) hbR (.int .i64 (i + n : Nat))
    rw [← HCC.out] at h
    unfold lay
    rw [byteCells_length, List.length_take, List.length_drop, size_list, Nat.min_eq_left hns]
    exact h
theorem read_eof (s : ByteArray) (i : Nat) (pr : Int) (R : Nat) (sl : Value) (ev : Value) (w : World) (hR : Row w R #[.string s, .int .i64 (i : Nat), .int .i64 pr] 126)
    (hi : s.size ≤ i) (he : w.cell? ⟨2, 0, none⟩ = some ev) (hev : ∃ t p, ev = .iface t p) :
    Calls Tryz.prog 177 #[.pointer (some ⟨R, 0, none⟩), sl] w fun e w' => e = .returned (.tuple #[.int .i64 0, ev]) ∧ ∃ n, w' = w.drewN n := by
  have c0 := hR.cell (j := 0) rfl
  have c1 := hR.cell (j := 1) rfl
  obtain ⟨t, p, rfl⟩ := hev
  clear hR
  go_enter Tryz.func177, Tryz.ntmps177
  go_wp2
  go_quiet (fail)
  go_wp2
  go_quiet (fail)
  go_wp2
  go_ret2
  exact ⟨rfl, _, drewN_two _ _ _⟩
theorem reset_any (b q l c : Nat) (a : Option Addr) (C : Array Value) (t : TypeId) (w : World) (hb : Row w b C t) (h0 : C[q]? = some (.slice a l c)) (h1 : ∃ x : Int, C[q + 1]? = some (.int .i64 x)) (h2 : ∃ x : Int, C[q + 2]? = some (.int .i8 x)) :
    Calls Tryz.prog 67 #[.pointer (some ⟨b, q, none⟩)] w fun e w' => e = .returned (.tuple #[]) ∧
      Row w' b (((C.setIfInBounds q (.slice a 0 c)).setIfInBounds (q + 1) (.int .i64 0)).setIfInBounds (q + 2) (.int .i8 0)) t ∧ Mod (· = b) w w' := by
  obtain ⟨x1, h1⟩ := h1
  obtain ⟨x2, h2⟩ := h2
  have c0 := hb.cell h0
  have c1 := hb.cell h1
  have c2 := hb.cell h2
  have hf := hb.frozen
  have HB := Lib.hid hb
  clear hb
  go_enter Tryz.func67, Tryz.ntmps67
  go_wp2
  go_end0
  exact ⟨rfl, ((HB.out.set q _).set (q + 1) _).set (q + 2) _, (((Mod.refl (· = b) w).set1 _).set1 _).set1 _⟩
end Go.Proofs.YtadpeebcombjnaaGreatDoor
