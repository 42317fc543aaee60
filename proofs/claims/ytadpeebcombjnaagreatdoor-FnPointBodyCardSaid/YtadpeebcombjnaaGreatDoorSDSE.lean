/- Tokens and pTokens. -/
import Derived.Test.YtadpeebcombjnaaGreatDoorSASC
namespace Go.Proofs.YtadpeebcombjnaaGreatDoor
open Go Go.Proofs Go.RowKit Go.Lib
set_option maxRecDepth 100000
theorem info9 : (Tryz.prog.info? 9).map (fun i => (i.zero, i.size, i.bytes)) = some (some (.string ⟨#[]⟩), 1, 16) := by kernel_rfl
theorem s_append {ops : Array Oper} {rest : List Oper} {o : Oper} {a : Act} {Q : Exit → Act → World → Prop} {wr : World} {B n : Nat} {v : Value} {xs : List Value} (hgd : o.guard = none) (s x : Operand)
    (ho : o.op = .call { callee := .builtin .append, args := #[s, x], argTypes := #[25, 25] }) (hown : wr.ownsRow B 9 1 v n xs) (hn : n ≤ 10000) (hB : B ≤ wr.heap.size) (g m : Nat) (C : Array Value) (hg : Row wr g C 9) (hm : C.size = m) (hm2 : m ≤ 1000) (hc : ∀ u ∈ C.toList, u.oneCell' = true)
    (hs : a.eval s = v) (hx : a.eval x = .slice (some ⟨g, 0, none⟩) m m)
    (h : ∀ v' w', w'.ownsRow B 9 1 v' (n + m) (xs ++ C.toList) → wr.grownBy w' v.ownBlock → wpList Tryz.prog ops Q rest (a.put o.dst v') w') :
    wpList Tryz.prog ops Q (o :: rest) a wr := by
  obtain ⟨i0, hi, hz0, hz1, hz2⟩ := info_parts info9
  refine wpList_append_own _ hgd s x 25 ho B 9 i0 _ 1 16 Tryz.underlying25 hi hz0 hz1 hz2 rfl (by decide) v n xs hs hown ⟨g, 0, none⟩ m m C.toList hx (by simp [hm]) (fun j u hj => ?_) hc (by unfold maxLen; omega) (by omega) hB (fun v' w' ha hb _ => h v' w' ha hb)
  have e : (⟨g, 0, none⟩ : Addr).add j = ⟨g, j, none⟩ := by unfold Addr.add; split <;> simp_all
  rw [e]
  exact hg.cell (by rw [← Array.getElem?_toList]; exact hj)
def str (l : List UInt8) : Value := .string ⟨l.toArray⟩
def strs (ts : List Tok) : List Value := ts.map fun t => str t.2
theorem own_ne {w : World} {V n g size : Nat} {e : TypeId} {v : Value} {xs : List Value} {C : Array Value} {t : TypeId} (h : w.ownsRow V e size v n xs) (hr : Row w g C t) (ht : t ≠ e) : v.ownBlock ≠ some g := by
  rcases h.2 with ⟨rfl, _⟩ | ⟨k, cap, cur, rfl, hg, hh, _⟩
  · simp [Value.ownBlock]
  · simp only [Value.ownBlock]
    intro e
    obtain rfl := Option.some.inj e
    have e := hh.symm.trans hr
    injection e with e
    injection e with _ e2
    exact ht e2.symm
theorem own_low {w : World} {B n size : Nat} {e : TypeId} {v : Value} {xs : List Value} (h : w.ownsRow B e size v n xs) : ∀ k, v.ownBlock = some k → B ≤ k := by
  intro b hbk
  rcases h.2 with ⟨rfl, _⟩ | ⟨g, cap, cur, rfl, hg, _⟩
  · simp [Value.ownBlock] at hbk
  · simp only [Value.ownBlock, Option.some.injEq] at hbk; omega
theorem below_grown {V : Nat} {w0 w w' : World} {B n size : Nat} {e : TypeId} {v : Value} {xs : List Value} (hb : Below V w0 w) (hg : w.grownBy w' v.ownBlock) (ho : w.ownsRow B e size v n xs) (hB : V ≤ B) (hs : V ≤ w.heap.size) : Below V w0 w' :=
  hb.trans (Mod.below_of (S := fun k => v.ownBlock = some k) ⟨hg.os, hg.tape, hg.output, hg.size, fun k hk hs => hg.block k hk (fun e => hs e.symm)⟩ hs (fun k hk hs => by have := own_low ho k hs; omega))
theorem own_grown {w w' : World} {B n size B2 n2 size2 : Nat} {e e2 : TypeId} {v v2 : Value} {xs xs2 : List Value} (h : w.ownsRow B e size v n xs) (h2 : w.ownsRow B2 e2 size2 v2 n2 xs2) (hne : e ≠ e2) (hg : w.grownBy w' v2.ownBlock) : w'.ownsRow B e size v n xs := by
  obtain ⟨a1, a2⟩ := h
  refine ⟨a1, ?_⟩
  rcases a2 with a2 | ⟨g, cap, cur, hv, hgB, hh, r⟩
  · exact .inl a2
  · exact .inr ⟨g, cap, cur, hv, hgB, grown_row hg hh (own_ne h2 hh hne), r⟩
def TksPost (s : ByteArray) (w : World) (e : Ending) (w' : World) : Prop := Below w.heap.size w w' ∧
  ((toksAt (By s) false = none ∧ ∃ v, e = .returned (.tuple #[v, .bool false])) ∨ ∃ ts v, toksAt (By s) false = some ts ∧ e = .returned (.tuple #[v, .bool true]) ∧ w'.ownsRow w.heap.size 9 1 v ts.length (strs ts))
set_option maxHeartbeats 4000000 in
theorem tks_any (s : ByteArray) (w : World) (hs : s.size ≤ 2000) : Calls Tryz.prog 18 #[.string s] w (TksPost s w) := by
  go_enter Tryz.func18, Tryz.ntmps18
  go_wp2_with fail
  go_at_call 19
  refine (tokens_any s w (by omega)).mono ?_
  rintro e w1 ⟨hb, ⟨hn, rfl⟩ | ⟨ts, v, hts, rfl, hlen, hown⟩⟩
  · have HB := Lib.hid hb
    have HN := Lib.hid hn
    clear hb hn
    go_wp2_with fail
    refine wp_loop_rounds 1 ?_
    rw [rounds_succ]
    go_wp2_with fail
    go_ret2
    exact ⟨HB.out, .inl ⟨HN.out, _, rfl⟩⟩
  · have hlen2 : ts.length ≤ 2000 := by rw [size_list] at hlen; omega
    rcases slice_of_own hown with ⟨rfl, h0⟩ | ⟨g, c, rfl, hgB, hgs⟩
    · have HB := Lib.hid hb
      have HT := Lib.hid hts
      have H0 := Lib.hid h0
      clear hb hts hown h0
      go_wp2_with fail
      refine wp_loop_rounds 1 ?_
      rw [rounds_succ]
      go_wp2_with fail
      go_ret2
      refine ⟨HB.out, .inr ⟨ts, _, HT.out, rfl, ?_⟩⟩
      rw [List.length_eq_zero_iff.1 H0.out]
      exact ⟨rfl, .inl ⟨rfl, rfl⟩⟩
    · have HB := Lib.hid hb
      have HO := Lib.hid hown
      have HT := Lib.hid hts
      clear hb hown hts hlen
      go_wp2_with fail
      go_loopg [2, 6, 14] ts.length (fun gh v a k wr => ∃ m : Nat, m + gh = ts.length ∧ k = .int .i64 m ∧ Hid (Below w.heap.size w wr) ∧ Hid (wr.ownsRow w.heap.size 73 2 (.slice (some ⟨g, 0, none⟩) ts.length c) ts.length (tokCells ts)) ∧ Hid (wr.ownsRow w.heap.size 9 1 v m (strs (ts.take m))))
      case atStart => exact ⟨0, by omega, rfl, HB, HO, Lib.hid ⟨rfl, .inl ⟨rfl, rfl⟩⟩⟩
      case round =>
        obtain ⟨m, hm, rfl, HB2, HO2, HS⟩ := hrel
        by_cases hlt : m < ts.length
        · obtain ⟨g0, g1⟩ := tokCells_get ts m hlt
          have c0 := (HO2.out.cellAt (2 * m) (by omega)).trans g0
          have c1 := (HO2.out.cellAt (2 * m + 1) (by omega)).trans g1
          rw [show 2 * m = m * 2 from Nat.mul_comm ..] at c0 c1
          have cf := HO2.out.frozenAt
          obtain ⟨t, htm⟩ : ∃ t, ts[m] = t := ⟨_, rfl⟩
          rw [htm] at c0 c1
          have HTM := Lib.hid htm
          obtain ⟨tk, tl⟩ := t
          clear g0 g1 htm
          obtain ⟨P, hP⟩ : ∃ P, wr.heap.size = P := ⟨_, rfl⟩
          have hPg : w.heap.size ≤ P := by have := HB2.out.size; omega
          go_upto_region 5 with (fail)
          have hrP : Row (wr.alloc (.cells #[.int .u8 tk.toNat, .string ⟨tl.toArray⟩] 73)) P #[.int .u8 tk.toNat, .string ⟨tl.toArray⟩] 73 := hP ▸ Row.new wr _ 73
          have p0 : (wr.alloc (.cells #[.int .u8 tk.toNat, .string ⟨tl.toArray⟩] 73)).cell? ⟨P, 0, none⟩ = some (.int .u8 tk.toNat) := hrP.cell rfl
          have p1 : (wr.alloc (.cells #[.int .u8 tk.toNat, .string ⟨tl.toArray⟩] 73)).cell? ⟨P, 1, none⟩ = some (.string ⟨tl.toArray⟩) := hrP.cell rfl
          have HBW : Hid (Below w.heap.size w (wr.alloc (.cells #[.int .u8 tk.toNat, .string ⟨tl.toArray⟩] 73))) := Lib.hid (HB2.out.alloc (by omega) _)
          have HOW := Lib.hid (own_below HO2.out ((Below.refl P wr).alloc (by omega) (.cells #[.int .u8 tk.toNat, .string ⟨tl.toArray⟩] 73)) (by omega))
          have HSW := Lib.hid (own_below HS.out ((Below.refl P wr).alloc (by omega) (.cells #[.int .u8 tk.toNat, .string ⟨tl.toArray⟩] 73)) (by omega))
          have hsz5 : w.heap.size ≤ (wr.alloc (.cells #[.int .u8 tk.toNat, .string ⟨tl.toArray⟩] 73)).heap.size := by simp [hP]; omega
          clear hrP c0 c1 cf
          generalize (wr.alloc (.cells #[.int .u8 tk.toNat, .string ⟨tl.toArray⟩] 73)) = W5 at *
          go_wp2_with (at_builtin; refine s_append rfl (.tmp 18) (.tmp 21) rfl (HSW.out.alloc _) (by omega) (by simp; omega) _ 1 #[.string ⟨tl.toArray⟩] (Row.new _ _ 9) rfl (by decide) (by intro u hu; simp at hu; rw [hu]; rfl) rfl rfl ?_; intro v' w' hown' hg')
          have hgW : (W5.alloc (.cells #[.string ⟨tl.toArray⟩] 9)).grownBy w' u2.ownBlock := hg'
          have hSA := HSW.out.alloc (.cells #[.string ⟨tl.toArray⟩] 9)
          have hb' := below_grown (HBW.out.alloc hsz5 (.cells #[.string ⟨tl.toArray⟩] 9)) hgW hSA (Nat.le_refl _) (by simp; omega)
          have ho' := own_grown (own_below HOW.out ((Below.refl _ W5).alloc (Nat.le_refl _) (.cells #[.string ⟨tl.toArray⟩] 9)) (Nat.le_refl _)) hSA (by decide) hgW
          have HB' := Lib.hid hb'
          have HO' := Lib.hid ho'
          have HV' := Lib.hid hown'
          clear hb' ho' hown' hSA hgW hg'
          go_roundg (ts.length - (m + 1))
          case measure => omega
          case rel =>
            refine ⟨m + 1, by omega, by go_num, HB', HO', Lib.hid ?_⟩
            have e : strs (ts.take (m + 1)) = strs (ts.take m) ++ [.string ⟨tl.toArray⟩] := by
              rw [List.take_add_one, List.getElem?_eq_getElem hlt, HTM.out]
              simp [strs, str]
            rw [e]
            exact HV'.out
        · obtain rfl : m = ts.length := by omega
          have HS2 := HS.out
          rw [List.take_length] at HS2
          have HS3 := Lib.hid HS2
          clear HS HS2
          go_wp2_with fail
          go_ret2
          exact ⟨HB2.out, .inr ⟨ts, _, HT.out, rfl, HS3.out⟩⟩
end Go.Proofs.YtadpeebcombjnaaGreatDoor
namespace Go.Proofs.YtadpeebcombjnaaGreatDoor
open Go Go.Proofs Go.RowKit Go.Lib
set_option maxRecDepth 100000
def PTkPost (s : ByteArray) (w : World) (e : Ending) (w' : World) : Prop := Below w.heap.size w w' ∧
  ((∃ v, e = .returned (.tuple #[v, .bool false])) ∨ ∃ ts v, toksAt (By s) false = some ts ∧ Asked ts ∧ s.size ≤ 2000 ∧ e = .returned (.tuple #[v, .bool true]) ∧ w'.ownsRow w.heap.size 9 1 v ts.length (strs ts))
set_option maxHeartbeats 1000000 in
theorem ptoks_any (s : ByteArray) (w : World) (hs : (s.size : Int) ≤ 9223372036854775807) : Calls Tryz.prog 6 #[.string s] w (PTkPost s w) := by
  by_cases h0 : s.size ≤ 2000
  · have hask := asked_any s w h0
    have hgt : ¬ (2000 : Int) < (s.size : Int) := by omega
    go_enter Tryz.func6, Tryz.ntmps6
    go_wp2_with fail
    go_at_call 17
    refine hask.mono ?_
    rintro e w1 ⟨hb, b, rfl, hbt⟩
    cases b with
    | false =>
      have HB := Lib.hid hb
      clear hb hbt hask
      go_wp2_with fail
      go_ret2
      exact ⟨HB.out, .inl ⟨_, rfl⟩⟩
    | true =>
      obtain ⟨ts, hts, hq⟩ := hbt rfl
      have htk := tks_any s w1 h0
      have HB := Lib.hid hb
      have HT := Lib.hid (And.intro hts hq)
      clear hb hbt hask hts hq
      go_wp2_with fail
      go_at_call 18
      refine htk.mono ?_
      rintro e w2 ⟨hb2, ⟨hn, v, rfl⟩ | ⟨ts2, v, hts2, rfl, hown⟩⟩
      · exfalso
        rw [HT.out.1] at hn
        exact absurd hn (by simp)
      · have hb3 : Below w.heap.size w w2 := HB.out.trans ⟨hb2.os, hb2.tape, hb2.output, hb2.size, fun k hk => hb2.block k (by have := HB.out.size; omega)⟩
        have e1 : ts2 = ts := by
          have := hts2.symm.trans HT.out.1
          exact Option.some.inj this
        subst e1
        have hown2 : w2.ownsRow w.heap.size 9 1 v ts2.length (strs ts2) := by
          obtain ⟨a1, a2⟩ := hown
          refine ⟨a1, ?_⟩
          rcases a2 with a2 | ⟨g, cap, cur, hv, hgB, hh, r⟩
          · exact .inl a2
          · exact .inr ⟨g, cap, cur, hv, by have := HB.out.size; omega, hh, r⟩
        have HB3 := Lib.hid hb3
        have HO := Lib.hid hown2
        clear hb2 hb3 hts2 hown hown2 htk
        go_wp2_with fail
        go_ret2
        exact ⟨HB3.out, .inr ⟨ts2, v, HT.out.1, HT.out.2, h0, rfl, HO.out⟩⟩
  · have hgt : (2000 : Int) < (s.size : Int) := by omega
    go_enter Tryz.func6, Tryz.ntmps6
    go_wp2
    go_ret2
    exact ⟨Below.refl _ _, .inl ⟨_, rfl⟩⟩
theorem kind_any (w : World) : Calls Tryz.prog 9 #[.int .i64 1] w fun e w' => e = .returned (.string ⟨#[80, 79, 73, 78, 84]⟩) ∧ w' = w := by
  go_enter Tryz.func9, Tryz.ntmps9
  go_wp2
  go_ret
  exact ⟨rfl, rfl⟩
def tagL : Nat → List UInt8
  | 0 => []
  | 1 => [32, 90, 32]
  | 2 => [32, 77, 32]
  | _ => [32, 90, 77, 32]
theorem tag_any (d : Nat) (hd : d < 4) (w : World) : Calls Tryz.prog 10 #[.int .i64 (d : Nat)] w fun e w' => Below w.heap.size w w' ∧ e = .returned (.string ⟨(tagL d).toArray⟩) := by
  have hb : bits BinOp.and IntKind.i64 (d : Int) 3 = (d : Int) := by
    have : ∀ n : Fin 4, bits BinOp.and IntKind.i64 (n.val : Int) 3 = (n.val : Int) := by decide
    exact this ⟨d, hd⟩
  have hd' : (d : Int) < 4 := by omega
  go_enter Tryz.func10, Tryz.ntmps10
  go_wp2
  go_ret
  refine ⟨(Below.refl _ w).alloc (Nat.le_refl _) _, ?_⟩
  match d, hd with
  | 0, _ => rfl
  | 1, _ => rfl
  | 2, _ => rfl
  | 3, _ => rfl
def PBPost (ts : List Tok) (w : World) (e : Ending) (w' : World) : Prop := w' = w ∧
  ((∃ B, bodyF 0 false ts = some B ∧ e = .returned (.tuple #[.string ⟨(spaced B).toArray⟩, .bool true])) ∨ (bodyF 0 false ts = none ∧ ∃ x, e = .returned (.tuple #[.string x, .bool false])))
theorem spaced_snoc (ts : List Tok) (t : Tok) : spaced (ts ++ [t]) = spaced ts ++ (t.2 ++ [32]) := by simp [spaced]
theorem spaced_len (ts : List Tok) (h : ∀ t ∈ ts, t.2.length ≤ 2000) : (spaced ts).length ≤ ts.length * 2001 := by
  induction ts with
  | nil => simp [spaced]
  | cons t ts ih =>
    have e : spaced (t :: ts) = (t.2 ++ [32]) ++ spaced ts := by simp [spaced]
    rw [e, List.length_append, List.length_append, List.length_cons]
    have h1 := h t (List.mem_cons_self ..)
    have h2 := ih fun u hu => h u (List.mem_cons_of_mem _ hu)
    simp
    omega
theorem pb_step {ts : List Tok} {m : Nat} {d δ : Int} {t : Tok} (hst : bodyF 0 false ts = (bodyF d (decide (0 < m)) (t :: ts.drop (m + 1))).map (ts.take m ++ ·)) (htk : ts.take (m + 1) = ts.take m ++ [t]) (hδ : dep t.2 = δ) :
    (d + δ = 0 → (0 < m ∨ t.2 = EMP) → bodyF 0 false ts = some (ts.take (m + 1))) ∧ (d + δ = 0 → m = 0 → t.2 ≠ EMP → bodyF 0 false ts = none) ∧
      (d + δ ≠ 0 → bodyF 0 false ts = (bodyF (d + δ) (decide (0 < m + 1)) (ts.drop (m + 1))).map (ts.take (m + 1) ++ ·)) := by
  rw [bodyF, hδ] at hst
  refine ⟨fun h h2 => ?_, fun h h2 h3 => ?_, fun h => ?_⟩
  · rw [if_pos h, if_pos (h2.imp (fun h => decide_eq_true h) id)] at hst
    rw [hst, htk]; rfl
  · rw [if_pos h, if_neg (by rw [h2]; simp [h3])] at hst
    exact hst
  · rw [if_neg h] at hst
    rw [hst, htk, decide_eq_true (Nat.succ_pos m)]
    cases bodyF (d + δ) true (ts.drop (m + 1)) with
    | none => rfl
    | some B => simp
theorem ba_app (a b : List UInt8) : (⟨a.toArray⟩ : ByteArray) ++ ⟨b.toArray⟩ = ⟨(a ++ b).toArray⟩ := by
  apply ByteArray.ext
  simp
set_option maxHeartbeats 4000000 in
theorem pbody_any (ts : List Tok) (v : Value) (B0 : Nat) (w : World) (hl : ts.length ≤ 2000) (hlt2 : ∀ t ∈ ts, t.2.length ≤ 2000) (hown : w.ownsRow B0 9 1 v ts.length (strs ts)) : Calls Tryz.prog 7 #[v] w (PBPost ts w) := by
  rcases slice_of_own hown with ⟨rfl, h0⟩ | ⟨g, c, rfl, hgB, hgs⟩
  · have hts : ts = [] := List.length_eq_zero_iff.1 h0
    subst hts
    clear hown hlt2
    go_enter Tryz.func7, Tryz.ntmps7
    go_wp2_with fail
    refine wp_loop_rounds 1 ?_
    rw [rounds_succ]
    go_wp2_with fail
    go_ret2
    exact ⟨rfl, .inr ⟨rfl, _, rfl⟩⟩
  · have HO := Lib.hid hown
    have HL := Lib.hid hlt2
    clear hown hlt2
    go_enter Tryz.func7, Tryz.ntmps7
    go_wp2_with fail
    go_loopg [2, 4, 5, 6, 9] ts.length (fun gh x dd i tt k wr => ∃ (m : Nat) (d : Int), m + gh = ts.length ∧ k = .int .i64 m ∧ wr = w ∧ x = .string ⟨(spaced (ts.take m)).toArray⟩ ∧ dd = .int .i64 d ∧ -(m : Int) ≤ d ∧ d ≤ m ∧ Hid (bodyF 0 false ts = (bodyF d (decide (0 < m)) (ts.drop m)).map (ts.take m ++ ·)))
    case atStart => exact ⟨0, 0, by omega, rfl, rfl, rfl, rfl, by omega, by omega, Lib.hid (by simp)⟩
    case round =>
      obtain ⟨m, d, hm, rfl, rfl, rfl, rfl, hd1, hd2, HB⟩ := hrel
      by_cases hlt : m < ts.length
      · have hsg : (strs ts)[m]? = some (str ts[m].2) := by simp [strs, List.getElem?_eq_getElem hlt]
        have c0 := (HO.out.cellAt m (by omega)).trans hsg
        have cf := HO.out.frozenAt
        obtain ⟨t, htm⟩ : ∃ t, ts[m] = t := ⟨_, rfl⟩
        have htl := HL.out ts[m] (List.getElem_mem hlt)
        rw [htm] at c0 htl
        have hstep : bodyF 0 false ts = (bodyF d (decide (0 < m)) (t :: ts.drop (m + 1))).map (ts.take m ++ ·) := by
          rw [HB.out, List.drop_eq_getElem_cons hlt, htm]
        have htake : ts.take (m + 1) = ts.take m ++ [t] := by rw [List.take_add_one, List.getElem?_eq_getElem hlt, htm]; rfl
        have hsp := spaced_len (ts.take m) (fun u hu => HL.out u (List.mem_of_mem_take hu))
        have hsp2 : (spaced (ts.take m)).length ≤ 2000 * 2001 := Nat.le_trans hsp (Nat.mul_le_mul_right _ (by rw [List.length_take]; omega))
        obtain ⟨tk, tl⟩ := t
        have htl : tl.length ≤ 2000 := htl
        have HST := Lib.hid hstep
        have HTK := Lib.hid htake
        obtain ⟨sp, hspe⟩ : ∃ sp, spaced (ts.take m) = sp := ⟨_, rfl⟩
        rw [hspe] at hsp2
        have HSP := Lib.hid hspe
        change wr.cell? ⟨g, m, none⟩ = some (.string ⟨tl.toArray⟩) at c0
        rw [hspe]
        clear hstep htake htm hsg hspe hsp
        by_cases h40 : tl = [40]
        · subst h40
          obtain ⟨f1, f2, f3⟩ := pb_step (δ := 1) HST.out HTK.out (by rfl)
          have F1 := Lib.hid f1
          have F2 := Lib.hid f2
          have F3 := Lib.hid f3
          clear f1 f2 f3 HST
          by_cases hd0 : d + 1 = 0
          · have hd0b : (d + 1 == 0) = true := beq_iff_eq.2 hd0
            have HD0 := Lib.hid hd0
            clear hd0
            by_cases hm0 : m = 0
            · have hmn : ¬ (0 : Int) < (m : Int) := by omega
              have HM0 := Lib.hid hm0
              clear hm0
              go_wp2_with fail
              go_ret2
              exact ⟨rfl, .inr ⟨F2.out (by have := HD0.out; omega) HM0.out (by decide), _, rfl⟩⟩
            · have hmp : (0 : Int) < (m : Int) := by omega
              go_wp2_with fail
              go_ret2
              have hx : ((⟨sp.toArray⟩ : ByteArray) ++ (⟨[40].toArray⟩ ++ ⟨[32].toArray⟩)) = ⟨(spaced (ts.take (m + 1))).toArray⟩ := by
                rw [ba_app, ba_app, HTK.out, spaced_snoc, HSP.out]
              exact ⟨rfl, .inl ⟨_, F1.out (by have := HD0.out; omega) (.inl (by omega)), congrArg (fun x => Ending.returned (.tuple #[.string x, .bool true])) hx⟩⟩
          · have hd0b : (d + 1 == 0) = false := beq_eq_false_iff_ne.2 hd0
            have HD0 := Lib.hid hd0
            clear hd0
            go_wp2_with fail
            go_roundg (ts.length - (m + 1))
            case measure => omega
            case rel =>
              have hx : ((⟨sp.toArray⟩ : ByteArray) ++ (⟨[40].toArray⟩ ++ ⟨[32].toArray⟩)) = ⟨(spaced (ts.take (m + 1))).toArray⟩ := by
                rw [ba_app, ba_app, HTK.out, spaced_snoc, HSP.out]
              exact ⟨m + 1, d + 1, by omega, by go_num, rfl, congrArg Value.string hx, rfl, by omega, by omega, Lib.hid (by have h := F3.out (by have := HD0.out; omega); exact h)⟩
        · have e40 : (tl == [40]) = false := beq_eq_false_iff_ne.2 h40
          by_cases h41 : tl = [41]
          · subst h41
            obtain ⟨f1, f2, f3⟩ := pb_step (δ := -1) HST.out HTK.out (by rfl)
            have F1 := Lib.hid f1
            have F2 := Lib.hid f2
            have F3 := Lib.hid f3
            clear f1 f2 f3 HST
            by_cases hd0 : d - 1 = 0
            · have hd0b : (d - 1 == 0) = true := beq_iff_eq.2 hd0
              have HD0 := Lib.hid hd0
              clear hd0
              by_cases hm0 : m = 0
              · have hmn : ¬ (0 : Int) < (m : Int) := by omega
                have HM0 := Lib.hid hm0
                clear hm0
                go_wp2_with fail
                go_ret2
                exact ⟨rfl, .inr ⟨F2.out (by have := HD0.out; omega) HM0.out (by decide), _, rfl⟩⟩
              · have hmp : (0 : Int) < (m : Int) := by omega
                go_wp2_with fail
                go_ret2
                have hx : ((⟨sp.toArray⟩ : ByteArray) ++ (⟨[41].toArray⟩ ++ ⟨[32].toArray⟩)) = ⟨(spaced (ts.take (m + 1))).toArray⟩ := by
                  rw [ba_app, ba_app, HTK.out, spaced_snoc, HSP.out]
                exact ⟨rfl, .inl ⟨_, F1.out (by have := HD0.out; omega) (.inl (by omega)), congrArg (fun x => Ending.returned (.tuple #[.string x, .bool true])) hx⟩⟩
            · have hd0b : (d - 1 == 0) = false := beq_eq_false_iff_ne.2 hd0
              have HD0 := Lib.hid hd0
              clear hd0
              go_wp2_with fail
              go_roundg (ts.length - (m + 1))
              case measure => omega
              case rel =>
                have hx : ((⟨sp.toArray⟩ : ByteArray) ++ (⟨[41].toArray⟩ ++ ⟨[32].toArray⟩)) = ⟨(spaced (ts.take (m + 1))).toArray⟩ := by
                  rw [ba_app, ba_app, HTK.out, spaced_snoc, HSP.out]
                exact ⟨m + 1, d - 1, by omega, by go_num, rfl, congrArg Value.string hx, rfl, by omega, by omega, Lib.hid (by have h := F3.out (by have := HD0.out; omega); rw [show d - 1 = d + -1 from rfl]; exact h)⟩
          · have e41 : (tl == [41]) = false := beq_eq_false_iff_ne.2 h41
            obtain ⟨f1, f2, f3⟩ := pb_step (δ := 0) HST.out HTK.out (by unfold dep; rw [if_neg h40, if_neg h41])
            have F1 := Lib.hid f1
            have F2 := Lib.hid f2
            have F3 := Lib.hid f3
            clear f1 f2 f3 HST
            by_cases hd0 : d = 0
            · have hd0b : (d == 0) = true := beq_iff_eq.2 hd0
              have HD0 := Lib.hid hd0
              clear hd0
              by_cases hm0 : m = 0
              · have hmn : ¬ (0 : Int) < (m : Int) := by omega
                by_cases hemp : tl = [69, 77, 80, 84, 89]
                · subst hemp
                  have HM0 := Lib.hid hm0
                  clear hm0
                  go_wp2_with fail
                  go_ret2
                  have hx : ((⟨sp.toArray⟩ : ByteArray) ++ (⟨[69, 77, 80, 84, 89].toArray⟩ ++ ⟨[32].toArray⟩)) = ⟨(spaced (ts.take (m + 1))).toArray⟩ := by
                    rw [ba_app, ba_app, HTK.out, spaced_snoc, HSP.out]
                  exact ⟨rfl, .inl ⟨_, F1.out (by have := HD0.out; omega) (.inr rfl), congrArg (fun x => Ending.returned (.tuple #[.string x, .bool true])) hx⟩⟩
                · have e3 : (tl == [69, 77, 80, 84, 89]) = false := beq_eq_false_iff_ne.2 hemp
                  have HM0 := Lib.hid (And.intro hm0 hemp)
                  clear hemp hm0
                  go_wp2_with fail
                  go_ret2
                  exact ⟨rfl, .inr ⟨F2.out (by have := HD0.out; omega) HM0.out.1 HM0.out.2, _, rfl⟩⟩
              · have hmp : (0 : Int) < (m : Int) := by omega
                go_wp2_with fail
                go_ret2
                have hx : ((⟨sp.toArray⟩ : ByteArray) ++ (⟨tl.toArray⟩ ++ ⟨[32].toArray⟩)) = ⟨(spaced (ts.take (m + 1))).toArray⟩ := by
                  rw [ba_app, ba_app, HTK.out, spaced_snoc, HSP.out]
                exact ⟨rfl, .inl ⟨_, F1.out (by have := HD0.out; omega) (.inl (by omega)), congrArg (fun x => Ending.returned (.tuple #[.string x, .bool true])) hx⟩⟩
            · have hd0b : (d == 0) = false := beq_eq_false_iff_ne.2 hd0
              have HD0 := Lib.hid hd0
              clear hd0
              go_wp2_with fail
              go_roundg (ts.length - (m + 1))
              case measure => omega
              case rel =>
                have hx : ((⟨sp.toArray⟩ : ByteArray) ++ (⟨tl.toArray⟩ ++ ⟨[32].toArray⟩)) = ⟨(spaced (ts.take (m + 1))).toArray⟩ := by
                  rw [ba_app, ba_app, HTK.out, spaced_snoc, HSP.out]
                exact ⟨m + 1, d, by omega, by go_num, rfl, congrArg Value.string hx, rfl, by omega, by omega, Lib.hid (by have h := F3.out (by have := HD0.out; omega); rw [Int.add_zero] at h; exact h)⟩
      · obtain rfl : m = ts.length := by omega
        have HB2 := HB.out
        rw [List.drop_length, bodyF, Option.map_none] at HB2
        have HB3 := Lib.hid HB2
        clear HB HB2
        go_wp2_with fail
        go_ret2
        exact ⟨rfl, .inr ⟨HB3.out, _, rfl⟩⟩
end Go.Proofs.YtadpeebcombjnaaGreatDoor
