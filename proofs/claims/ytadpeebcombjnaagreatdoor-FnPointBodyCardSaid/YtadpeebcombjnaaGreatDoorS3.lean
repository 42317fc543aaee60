/- The walk through the reference function tokens, and what it rests on: a string is cut into words, decimals and signs, or refused. -/
import Derived.Test.YtadpeebcombjnaaGreatDoorProg
import Derived.WalkKit
import Derived.WalkLawsBesides
import Derived.Deep.QuietTactic
import Derived.BigQuiet
import Derived.Deep.DeepFit
import Derived.Deep.LoopGhost
import Derived.Deep.DeepCutAuto
import Derived.StillTailTactics
import Derived.KernelRfl
import Derived.Lib.Hide
import Derived.Deep.DeepMust
import Derived.Test.YtadpeebcombjnaaGreatDoorS1S2
namespace Go.Proofs.YtadpeebcombjnaaGreatDoor
open Go Go.Proofs Go.RowKit
set_option maxRecDepth 100000
theorem info73 : (Tryz.prog.info? 73).map (fun i => (i.zero, i.size, i.bytes)) = some (some (.agg #[.int .u8 0, .string ⟨#[]⟩]), 2, 24) := by kernel_rfl
theorem isLetter_any (c : UInt8) (w : World) :
    Calls Tryz.prog 32 #[.int .u8 c.toNat] w fun e w' => e = .returned (.bool (isLet c)) ∧ w = w' := by
  by_cases h : isLet c = true
  · have H := Lib.hid h
    have h' := (isLet_iff c).1 h
    clear h
    obtain ⟨h1, h2⟩ | ⟨h1, h2⟩ := h'
    · go_enter Tryz.func32, Tryz.ntmps32
      go_wp2
      go_ret
      exact ⟨by rw [H.out]; rfl, rfl⟩
    · have h3 : ¬ 97 ≤ (c.toNat : Int) := by omega
      have h3' : decide (97 ≤ (c.toNat : Int)) = false := by simpa using h3
      go_enter Tryz.func32, Tryz.ntmps32
      go_wp2
      go_ret
      exact ⟨by rw [H.out]; simp [*], rfl⟩
  · have H := Lib.hid h
    have h' := fun x => h ((isLet_iff c).2 x)
    have e : isLet c = false := by simpa using h
    clear h
    have h1 : 97 ≤ (c.toNat : Int) → ¬ (c.toNat : Int) ≤ 122 := fun a b => h' (.inl ⟨a, b⟩)
    have h2 : 65 ≤ (c.toNat : Int) → ¬ (c.toNat : Int) ≤ 90 := fun a b => h' (.inr ⟨a, b⟩)
    clear h'
    have E := Lib.hid e
    clear e
    go_enter Tryz.func32, Tryz.ntmps32
    go_wp2
    all_goals (go_ret; exact ⟨by rw [E.out]; first | rfl | (simp; omega) | (simp; done), rfl⟩)
def tokCells (ts : List Tok) : List Value := ts.flatMap fun t => [.int .u8 t.1.toNat, .string ⟨t.2.toArray⟩]
theorem tokCells_snoc (ts : List Tok) (t : Tok) : tokCells (ts ++ [t]) = tokCells ts ++ [.int .u8 t.1.toNat, .string ⟨t.2.toArray⟩] := by simp [tokCells]
theorem extract_one (s : ByteArray) (k : Nat) (h : k < s.size) : s.extract k (k + 1) = ⟨[s[k]].toArray⟩ := by
  rw [extract_mid, drop_list s k h, show k + 1 - k = 1 from by omega]; rfl
theorem slice_at (s : ByteArray) (i j : Nat) (h1 : i ≤ j) (h2 : j ≤ s.size) (w : World) :
    (Instr.slice 9 (.string s) (some (.int .i64 (i : Int))) (some (.int .i64 (j : Int))) none).run Tryz.prog w = .ok (.string (s.extract i j)) w := by
  rw [run_slice_string w 9 s .i64 .i64 i j Tryz.underlying9 (by omega) (by omega) (by omega)]
  rfl
theorem tok_append {ops : Array Oper} {rest : List Oper} {o : Oper} {a : Act} {Q : Exit → Act → World → Prop} {wr : World} {B n : Nat} {v : Value} {xs : List Value} (hgd : o.guard = none) (s x : Operand)
    (ho : o.op = .call { callee := .builtin .append, args := #[s, x], argTypes := #[55, 55] }) (hown : wr.ownsRow B 73 2 v n xs) (hn : n ≤ 1000000) (hB : B ≤ wr.heap.size) (c0 c1 : Value) (h0 : c0.oneCell' = true) (h1 : c1.oneCell' = true)
    (hs : a.eval s = v) (hx : a.eval x = .slice (some ⟨wr.heap.size, 0, none⟩) 1 1)
    (h : ∀ v' w', w'.ownsRow B 73 2 v' (n + 1) (xs ++ [c0, c1]) → (wr.alloc (.cells #[c0, c1] 73)).grownBy w' v.ownBlock → wpList Tryz.prog ops Q rest (a.put o.dst v') w') :
    wpList Tryz.prog ops Q (o :: rest) a (wr.alloc (.cells #[c0, c1] 73)) := by
  obtain ⟨i0, hi, hz0, hz1, hz2⟩ := info_parts info73
  refine wpList_append_own _ hgd s x 55 ho B 73 i0 _ 2 24 Tryz.underlying55 hi hz0 hz1 hz2 rfl (by decide) v n xs hs (hown.alloc _) ⟨wr.heap.size, 0, none⟩ 1 1 [c0, c1] hx rfl (cell_two_new wr c0 c1 73) ?_ (by unfold maxLen; omega) (by omega) (by simp; omega) (fun v' w' ha hb _ => h v' w' ha hb)
  intro u hu
  simp at hu
  rcases hu with rfl | rfl
  · exact h0
  · exact h1
theorem decimal_from (s : ByteArray) (i : Nat) (w : World) (hs : s.size ≤ maxLen) :
    Calls Tryz.prog 33 #[.string (s.extract i s.size)] w fun e w' => e = .returned (.int .i64 (decN (s.data.toList.drop i) : Nat)) ∧ w = w' := by
  have h := decimal_any (s.extract i s.size) w (by rw [extract_size]; omega)
  rw [extract_list] at h
  exact h
theorem extract_take (s : ByteArray) (k m : Nat) : s.extract k (k + m) = ⟨((s.data.toList.drop k).take m).toArray⟩ := by
  rw [extract_mid, show k + m - k = m from by omega]
theorem drop_drop (s : ByteArray) (k m : Nat) : (s.data.toList.drop k).drop m = s.data.toList.drop (k + m) := by rw [List.drop_drop]
theorem own_ge {wr : World} {B n : Nat} {v : Value} {xs : List Value} (h : wr.ownsRow B 73 2 v n xs) : ∀ k, v.ownBlock = some k → B ≤ k := by
  intro b hbk
  rcases h.2 with ⟨rfl, _⟩ | ⟨g, cap, cur, rfl, hg, _⟩
  · simp [Value.ownBlock] at hbk
  · simp only [Value.ownBlock, Option.some.injEq] at hbk; omega
def TokPost (L : List UInt8) (w : World) (e : Ending) (w' : World) : Prop :=
  Below w.heap.size w w' ∧ ((toksAt L false = none ∧ e = .returned (.tuple #[.slice none 0 0, .bool false])) ∨
    ∃ ts v, toksAt L false = some ts ∧ e = .returned (.tuple #[v, .bool true]) ∧ ts.length ≤ L.length ∧ w'.ownsRow w.heap.size 73 2 v ts.length (tokCells ts))
def TokRel (s : ByteArray) (w : World) (v j i : Value) (wr : World) : Prop :=
  ∃ (k : Nat) (out : List Tok) (jb : Bool), k ≤ s.size ∧ i = .int .i64 k ∧ j = .bool jb ∧ out.length ≤ k ∧ wr.ownsRow w.heap.size 73 2 v out.length (tokCells out) ∧ Below w.heap.size w wr ∧
    toksAt s.data.toList false = (toksAt (s.data.toList.drop k) jb).map (out ++ ·)
theorem tok_push {s : ByteArray} {w wr w1 : World} {v v' : Value} {out : List Tok} {k k' : Nat} {jb jb' : Bool} {t : Tok} {o : Obj} (hk : k < k') (hk' : k' ≤ s.size)
    (hown : w1.ownsRow w.heap.size 73 2 v' (out.length + 1) (tokCells out ++ [.int .u8 t.1.toNat, .string ⟨t.2.toArray⟩])) (hlen : out.length ≤ k)
    (hb : Below w.heap.size w wr) (hg : (wr.alloc o).grownBy w1 v.ownBlock) (ho : wr.ownsRow w.heap.size 73 2 v out.length (tokCells out))
    (ht : toksAt s.data.toList false = (toksAt (s.data.toList.drop k) jb).map (out ++ ·))
    (hstep : toksAt (s.data.toList.drop k) jb = (toksAt (s.data.toList.drop k') jb').map (t :: ·)) : TokRel s w v' (.bool jb') (.int .i64 k') w1 := by
  refine ⟨k', out ++ [t], jb', hk', rfl, rfl, by simp; omega, ?_, ?_, ?_⟩
  · rw [tokCells_snoc, List.length_append]; exact hown
  · refine (hb.alloc hb.size o).grown hg (Nat.le_trans hb.size (by simp)) ?_
    intro b hbk
    rcases ho.2 with ⟨rfl, _⟩ | ⟨g, cap, cur, rfl, hg, _⟩
    · simp [Value.ownBlock] at hbk
    · simp only [Value.ownBlock, Option.some.injEq] at hbk; omega
  · rw [ht, hstep, map_snoc]
set_option maxHeartbeats 2000000 in
theorem tokens_any (s : ByteArray) (w : World) (hs : s.size ≤ 100000) :
    Calls Tryz.prog 19 #[.string s] w (TokPost s.data.toList w) := by
  obtain ⟨i0, hi, hz0, hz1, hz2⟩ := info_parts info73
  have hs' : s.size ≤ maxLen := by unfold maxLen; omega
  go_enter Tryz.func19, Tryz.ntmps19
  go_wp2
  go_loopw [2, 4, 5] (fun v j i wr => TokRel s w v j i wr) (fun _ _ i _ => s.size - (intOf i).toNat)
  case atStart => exact ⟨0, [], false, Nat.zero_le _, rfl, rfl, Nat.le_refl _, ⟨rfl, .inl ⟨rfl, rfl⟩⟩, Below.refl _ _, by rw [List.drop_zero, map_nil_app]⟩
  case round =>
    obtain ⟨k, out, jb, hk, rfl, rfl, hlen, hown, hb, ht⟩ := hrel
    have HT := Lib.hid ht
    clear ht
    by_cases hlt : k < s.size
    · have HC := Lib.hid (drop_list s k hlt)
      obtain ⟨h1, h2⟩ | ⟨h1, h2, h3⟩ | ⟨h1, h2⟩ | ⟨h1, h2, h3, h4⟩ := byte_view s[k]
      · have H1 := Lib.hid h1
        clear h1
        obtain h2 | h2 | h2 | h2 := h2
        all_goals
          have H2 := Lib.hid h2
          go_wp2
          go_roundw
          case rel => exact ⟨k + 1, out, false, by omega, by go_num, rfl, by omega, hown, hb, by rw [HT.out, HC.out, toksAt_blank H1.out]⟩
          case measure => simp [intOf]; omega
      · have H1 := Lib.hid h1
        have H3 := Lib.hid h3
        clear h1 h3
        have hsl : ∀ wx, (Instr.slice 9 (.string s) (some (.int .i64 (k : Int))) (some (.int .i64 ((k : Int) + 1))) none).run Tryz.prog wx = .ok (.string (s.extract k (k + 1))) wx := fun wx => slice_at s k (k + 1) (by omega) (by omega) wx
        obtain h2 | h2 | h2 := h2
        all_goals
          have H2 := Lib.hid h2
          go_wp2_with (at_builtin; refine tok_append rfl (.tmp 66) (.tmp 74) rfl hown (by omega) hb.size _ _ rfl rfl rfl rfl ?_; intro v' w1 hown1 hg1)
          go_roundw
          case rel => exact tok_push (k' := k + 1) (jb' := false) (t := (s[k], [s[k]])) (by omega) (by omega) (by rw [← extract_one s k hlt, H2.out]; exact hown1) hlen hb hg1 hown HT.out (by rw [HC.out, toksAt_sign H1.out, if_neg (fun x => H3.out x.1)])
          case measure => simp [intOf]; omega
      · have H1 := Lib.hid h1
        have H2 := Lib.hid h2
        clear h1
        have hsl : ∀ wx, (Instr.slice 9 (.string s) (some (.int .i64 (k : Int))) (some (.int .i64 ((k : Int) + 1))) none).run Tryz.prog wx = .ok (.string (s.extract k (k + 1))) wx := fun wx => slice_at s k (k + 1) (by omega) (by omega) wx
        cases jb with
        | true =>
          go_wp2
          go_ret2
          exact ⟨hb, .inl ⟨by rw [HT.out, HC.out, toksAt_sign (.inr (.inr (.inr H1.out))), if_pos ⟨H1.out, rfl⟩]; rfl, rfl⟩⟩
        | false =>
          go_wp2_with (at_builtin; refine tok_append rfl (.tmp 66) (.tmp 74) rfl hown (by omega) hb.size _ _ rfl rfl rfl rfl ?_; intro v' w1 hown1 hg1)
          go_roundw
          case rel => exact tok_push (k' := k + 1) (jb' := false) (t := (s[k], [s[k]])) (by omega) (by omega) (by rw [← extract_one s k hlt, H2.out]; exact hown1) hlen hb hg1 hown HT.out (by rw [HC.out, toksAt_sign (.inr (.inr (.inr H1.out))), if_neg (by simp)])
          case measure => simp [intOf]; omega
      · have H3 := Lib.hid h3
        have H4 := Lib.hid h4
        obtain ⟨h1, h1b, h1c, h1d⟩ := h1
        obtain ⟨h2, h2b, h2c, h2d⟩ := h2
        clear h3 h4
        by_cases hL : isLet s[k] = true
        · have HL := Lib.hid hL
          go_wp2_with (go_at_call 32; refine (isLetter_any s[k] _).mono ?_; rintro e w' ⟨rfl, rfl⟩)
          go_loop [7] (fun n => ∃ m : Nat, k + m ≤ s.size ∧ n = .int .i64 m ∧ Hid (letN (s.data.toList.drop k) = m + letN (s.data.toList.drop (k + m)))) (fun n => s.size - (intOf n).toNat)
          case atStart => exact ⟨0, by omega, rfl, Lib.hid (by simp)⟩
          case round =>
            obtain ⟨m, hm, rfl, HN⟩ := hrel
            by_cases hlm : k + m < s.size
            · have HC2 := Lib.hid (drop_list s (k + m) hlm)
              by_cases hM : isLet s[k + m] = true
              · have HM := Lib.hid hM
                go_wp2_with (go_at_call 32; refine (isLetter_any s[k + m] _).mono ?_; rintro e w' ⟨rfl, rfl⟩)
                go_round
                case rel => exact ⟨m + 1, by omega, by go_num, Lib.hid (by rw [HN.out, HC2.out, letN, if_pos HM.out, show k + (m + 1) = k + m + 1 from rfl]; omega)⟩
                case measure => simp [intOf]; omega
              · have HM := Lib.hid hM
                have HN2 : Hid (letN (s.data.toList.drop k) = m) := Lib.hid (by rw [HN.out, HC2.out, letN, if_neg HM.out]; rfl)
                have hM2 : isLet s[k + m] = false := by simpa using hM
                clear hM HN
                have hsl : ∀ wx, (Instr.slice 9 (.string s) (some (.int .i64 (k : Int))) (some (.int .i64 ((k : Int) + (m : Nat)))) none).run Tryz.prog wx = .ok (.string (s.extract k (k + m))) wx := fun wx => slice_at s k (k + m) (by omega) (by omega) wx
                have hmp : 0 < m := by have := HN2.out; rw [HC.out] at this; have := letN_pos (r := s.data.toList.drop (k + 1)) HL.out; omega
                have hz2 : (((m : Nat) : Int) == 0) = false := by simp; omega
                cases jb with
                | true =>
                  go_wp2_with (first | (go_at_call 32; refine (isLetter_any s[k + m] _).mono ?_; rintro e w' ⟨rfl, rfl⟩) | (at_builtin; refine tok_append rfl (.tmp 97) (.tmp 105) rfl hown (by omega) hb.size _ _ rfl rfl rfl rfl ?_; intro v' w1 hown1 hg1))
                  go_ret2
                  exact ⟨(hb.alloc hb.size _).grown hg1 (Nat.le_trans hb.size (by simp)) (own_ge hown), .inl ⟨by rw [HT.out, HC.out, toksAt_word HL.out, if_pos rfl]; rfl, rfl⟩⟩
                | false =>
                  go_wp2_with (first | (go_at_call 32; refine (isLetter_any s[k + m] _).mono ?_; rintro e w' ⟨rfl, rfl⟩) | (at_builtin; refine tok_append rfl (.tmp 97) (.tmp 105) rfl hown (by omega) hb.size _ _ rfl rfl rfl rfl ?_; intro v' w1 hown1 hg1))
                  go_roundw
                  case rel => exact tok_push (k' := k + m) (jb' := true) (t := (97, (s.data.toList.drop k).take m)) (by omega) (by omega) (by rw [← extract_take]; exact hown1) hlen hb hg1 hown HT.out (by rw [HC.out, toksAt_word HL.out, ← HC.out, HN2.out, if_neg (by simp), drop_drop])
                  case measure => simp [intOf]; omega
            · have HN2 : Hid (letN (s.data.toList.drop k) = m) := Lib.hid (by rw [HN.out, drop_all s (k + m) (by omega)]; rfl)
              clear HN
              have hsl : ∀ wx, (Instr.slice 9 (.string s) (some (.int .i64 (k : Int))) (some (.int .i64 ((k : Int) + (m : Nat)))) none).run Tryz.prog wx = .ok (.string (s.extract k (k + m))) wx := fun wx => slice_at s k (k + m) (by omega) (by omega) wx
              have hmp : 0 < m := by have := HN2.out; rw [HC.out] at this; have := letN_pos (r := s.data.toList.drop (k + 1)) HL.out; omega
              have hz2 : (((m : Nat) : Int) == 0) = false := by simp; omega
              cases jb with
              | true =>
                go_wp2_with (first | (go_at_call 32; refine (isLetter_any s[k + m] _).mono ?_; rintro e w' ⟨rfl, rfl⟩) | (at_builtin; refine tok_append rfl (.tmp 97) (.tmp 105) rfl hown (by omega) hb.size _ _ rfl rfl rfl rfl ?_; intro v' w1 hown1 hg1))
                go_ret2
                exact ⟨(hb.alloc hb.size _).grown hg1 (Nat.le_trans hb.size (by simp)) (own_ge hown), .inl ⟨by rw [HT.out, HC.out, toksAt_word HL.out, if_pos rfl]; rfl, rfl⟩⟩
              | false =>
                go_wp2_with (first | (go_at_call 32; refine (isLetter_any s[k + m] _).mono ?_; rintro e w' ⟨rfl, rfl⟩) | (at_builtin; refine tok_append rfl (.tmp 97) (.tmp 105) rfl hown (by omega) hb.size _ _ rfl rfl rfl rfl ?_; intro v' w1 hown1 hg1))
                go_roundw
                case rel => exact tok_push (k' := k + m) (jb' := true) (t := (97, (s.data.toList.drop k).take m)) (by omega) (by omega) (by rw [← extract_take]; exact hown1) hlen hb hg1 hown HT.out (by rw [HC.out, toksAt_word HL.out, ← HC.out, HN2.out, if_neg (by simp), drop_drop])
                case measure => simp [intOf]; omega
        · have HL := Lib.hid hL
          have hL2 : isLet s[k] = false := by simpa using hL
          clear hL
          obtain ⟨m, hm⟩ : ∃ m, m = decN (s.data.toList.drop k) := ⟨_, rfl⟩
          have hml : k + m ≤ s.size := by
            have := decN_le (s.data.toList.drop k)
            rw [List.length_drop, size_list] at this
            omega
          have HM := Lib.hid hm
          have hD := fun w => decimal_from s k w hs'
          rw [← hm] at hD
          have HDC := Lib.hid hD
          clear hD hm
          have hsl : ∀ wx, (Instr.slice 9 (.string s) (some (.int .i64 (k : Int))) (some (.int .i64 ((k : Int) + (m : Nat)))) none).run Tryz.prog wx = .ok (.string (s.extract k (k + m))) wx := fun wx => slice_at s k (k + m) (by omega) (by omega) wx
          by_cases hz : m = 0
          · have HZ := Lib.hid hz
            have hz2 : (((m : Nat) : Int) == 0) = true := by simp; omega
            clear hz
            go_wp2_with (first | (go_at_call 32; refine (isLetter_any s[k] _).mono ?_; rintro e w' ⟨rfl, rfl⟩) | (go_at_call 33; refine (HDC.out _).mono ?_; rintro e w' ⟨rfl, rfl⟩) | (at_builtin; refine tok_append rfl (.tmp 19) (.tmp 27) rfl hown (by omega) hb.size _ _ rfl rfl rfl rfl ?_; intro v' w1 hown1 hg1))
            go_ret2
            exact ⟨(hb.alloc hb.size _).grown hg1 (Nat.le_trans hb.size (by simp)) (own_ge hown), .inl ⟨by rw [HT.out, HC.out, toksAt_num H3.out H4.out HL.out, ← HC.out, ← HM.out, if_pos (.inl HZ.out)]; rfl, rfl⟩⟩
          · have HZ := Lib.hid hz
            have hz2 : (((m : Nat) : Int) == 0) = false := by simp; omega
            clear hz
            cases jb with
            | true =>
              go_wp2_with (first | (go_at_call 32; refine (isLetter_any s[k] _).mono ?_; rintro e w' ⟨rfl, rfl⟩) | (go_at_call 33; refine (HDC.out _).mono ?_; rintro e w' ⟨rfl, rfl⟩) | (at_builtin; refine tok_append rfl (.tmp 19) (.tmp 27) rfl hown (by omega) hb.size _ _ rfl rfl rfl rfl ?_; intro v' w1 hown1 hg1))
              go_ret2
              exact ⟨(hb.alloc hb.size _).grown hg1 (Nat.le_trans hb.size (by simp)) (own_ge hown), .inl ⟨by rw [HT.out, HC.out, toksAt_num H3.out H4.out HL.out, if_pos (.inr rfl)]; rfl, rfl⟩⟩
            | false =>
              go_wp2_with (first | (go_at_call 32; refine (isLetter_any s[k] _).mono ?_; rintro e w' ⟨rfl, rfl⟩) | (go_at_call 33; refine (HDC.out _).mono ?_; rintro e w' ⟨rfl, rfl⟩) | (at_builtin; refine tok_append rfl (.tmp 19) (.tmp 27) rfl hown (by omega) hb.size _ _ rfl rfl rfl rfl ?_; intro v' w1 hown1 hg1))
              go_roundw
              case rel => exact tok_push (k' := k + m) (jb' := true) (t := (49, (s.data.toList.drop k).take m)) (by have := HZ.out; omega) (by omega) (by rw [← extract_take]; exact hown1) hlen hb hg1 hown HT.out (by rw [HC.out, toksAt_num H3.out H4.out HL.out, ← HC.out, ← HM.out, if_neg (by have := HZ.out; simp; omega), drop_drop])
              case measure => have := HZ.out; simp [intOf]; omega
    · have HC := Lib.hid (drop_all s k (by omega))
      go_wp2
      go_ret2
      exact ⟨hb, .inr ⟨out, _, by rw [HT.out, HC.out]; simp [toksAt_nil], rfl, by rw [size_list]; omega, hown⟩⟩
end Go.Proofs.YtadpeebcombjnaaGreatDoor
