/- The scanner at place k of the text: the rune there has been read (it is the caller's 'ch'); from 'a' on the token's text is gathered. -/
import Derived.Test.YtadpeebcombjnaaGreatDoorL6
import Derived.Deep.LoopGhost
import Derived.Outline
namespace Go.Proofs.YtadpeebcombjnaaGreatDoor
open Go Go.Proofs Go.RowKit Go.Lib
set_option maxRecDepth 100000
/-- The rune at place k: -1 behind the end. -/
def ru (s : ByteArray) (k : Nat) : Int := if h : k < s.size then (s[k].toNat : Int) else -1
theorem ru_lt {s : ByteArray} {k : Nat} (h : k < s.size) : ru s k = (s[k].toNat : Int) := by unfold ru; rw [dif_pos h]
theorem ru_ge {s : ByteArray} {k : Nat} (h : s.size ≤ k) : ru s k = -1 := by unfold ru; rw [dif_neg (by omega)]
/-- What holds throughout: the text's bounds, the globals' cells. -/
structure Env (base : Nat) (s : ByteArray) (w : World) : Prop where
  asc : ∀ i (h : i < s.size), 9 ≤ (s[i].toNat : Int) ∧ (s[i].toNat : Int) < 128
  size : s.size ≤ 2000
  heap : base ≤ w.heap.size
  low : 24 ≤ base
  gl : Gl w
theorem Env.mono {base : Nat} {s : ByteArray} {w w' : World} (h : Env base s w) (hb : Below base w w') : Env base s w' := ⟨h.asc, h.size, Nat.le_trans h.heap hb.size, h.low, h.gl.mono hb h.low⟩
theorem ru_bounds {base : Nat} {s : ByteArray} {w : World} (h : Env base s w) (k : Nat) : ru s k = -1 ∨ (9 ≤ ru s k ∧ ru s k < 128) := by
  by_cases hk : k < s.size
  · rw [ru_lt hk]; exact .inr (h.asc k hk)
  · rw [ru_ge (by omega)]; exact .inl rfl
def txt (s : ByteArray) (a k : Nat) : List UInt8 := (s.data.toList.drop a).take (k - a)
structure At (base B R : Nat) (s : ByteArray) (w : World) (k : Nat) (st : Option Nat) (te ch : Int) (pk : ByteArray) (ef : Value) : Prop where
  env : Env base s w
  kle : k ≤ s.size
  sle : ∀ a, st = some a → a ≤ k
  lx : Lx base B R s w (min (k + 1) s.size) (if k < s.size then 1 else 0) (st.map fun a => txt s a (k + 1)) te ch pk ef
theorem txt_step {s : ByteArray} {a k : Nat} (ha : a ≤ k + 1) (hk : k + 1 < s.size) : txt s a (k + 1) ++ [s[k + 1]] = txt s a (k + 1 + 1) := by
  unfold txt
  rw [show k + 1 + 1 - a = (k + 1 - a) + 1 from by omega, List.take_add_one, List.getElem?_drop, show a + (k + 1 - a) = k + 1 from by omega, List.getElem?_eq_getElem (by rw [size_list]; exact hk)]
  rfl
theorem txt_end {s : ByteArray} {a k : Nat} (hk : s.size ≤ k) : txt s a (k + 1) = txt s a k := by
  unfold txt
  rw [List.take_of_length_le (by rw [List.length_drop, size_list]; omega), List.take_of_length_le (by rw [List.length_drop, size_list]; omega)]
theorem next_at {base B R : Nat} {s : ByteArray} {w : World} {k : Nat} {st : Option Nat} {te ch : Int} {pk : ByteArray} {ef : Value} (h : At base B R s w k st te ch pk ef) (hk : k < s.size) :
    Calls Tryz.prog 66 #[.pointer (some ⟨B, 0, none⟩)] w fun e w' => e = .returned (.int .i32 (ru s (k + 1))) ∧ Fr base B R w w' ∧ At base B R s w' (k + 1) st te ch pk ef := by
  have hl := h.lx
  rw [if_pos hk, Nat.min_eq_left (by omega)] at hl
  refine (next_any hl h.env.asc h.env.size h.env.heap h.env.low h.env.gl).mono ?_
  rintro e w' ⟨hF, ⟨hq, rfl, hx⟩ | ⟨hq, rfl, hx⟩⟩
  · refine ⟨by rw [ru_lt hq], hF, h.env.mono hF.below, Nat.le_of_lt hq, fun a ha => Nat.le_succ_of_le (h.sle a ha), ?_⟩
    rw [if_pos hq, Nat.min_eq_left (by omega)]
    cases st with
    | none => exact hx
    | some a =>
      have := h.sle a rfl
      have e := txt_step (s := s) (a := a) (by omega) hq
      simp only [Option.map_some] at hx ⊢
      rwa [e] at hx
  · refine ⟨by rw [ru_ge hq], hF, h.env.mono hF.below, hk, fun a ha => Nat.le_succ_of_le (h.sle a ha), ?_⟩
    rw [if_neg (by omega), Nat.min_eq_right (by omega)]
    have e : s.size = k + 1 := by omega
    cases st with
    | none => rw [e]; exact hx
    | some a =>
      have e2 := txt_end (s := s) (a := a) (k := k + 1) hq
      simp only [Option.map_some] at hx ⊢
      rw [e2, e]
      exact hx
theorem first_at {base B R : Nat} {s : ByteArray} {w : World} {te ch : Int} {pk : ByteArray} {ef : Value} {lc : Int} (he : Env base s w) (h : Lx base B R s w 0 lc none te ch pk ef) :
    Calls Tryz.prog 66 #[.pointer (some ⟨B, 0, none⟩)] w fun e w' => e = .returned (.int .i32 (ru s 0)) ∧ Fr base B R w w' ∧ At base B R s w' 0 none te ch pk ef := by
  refine (next_any h he.asc he.size he.heap he.low he.gl).mono ?_
  rintro e w' ⟨hF, ⟨hq, rfl, hx⟩ | ⟨hq, rfl, hx⟩⟩
  · refine ⟨by rw [ru_lt hq], hF, he.mono hF.below, Nat.zero_le _, nofun, ?_⟩
    rw [if_pos hq, Nat.min_eq_left (by omega)]
    exact hx
  · refine ⟨by rw [ru_ge hq], hF, he.mono hF.below, Nat.zero_le _, nofun, ?_⟩
    rw [if_neg (by omega), Nat.min_eq_right (by omega), show s.size = 0 from by omega]
    exact hx
theorem At.keep {base B R : Nat} {s : ByteArray} {w w' : World} {k : Nat} {st : Option Nat} {te ch : Int} {pk : ByteArray} {ef : Value} (h : At base B R s w k st te ch pk ef)
    (hb : Below base w w') (hB : w'.heap[B]? = w.heap[B]?) (hR : w'.heap[R]? = w.heap[R]?) (ho : ∀ (g : Nat) (C : Array Value), Row w g C 5 → Row w' g C 5) : At base B R s w' k st te ch pk ef := by
  obtain ⟨C, off, p, e, tp, tb, l, hx, hlc⟩ := h.lx
  refine ⟨h.env.mono hb, h.kle, h.sle, C, off, p, e, tp, tb, l, ⟨hx.hB, hx.hR, hx.ne, hB.trans hx.row, hx.scn, hx.pkc, hx.rd.imp fun _ hr => hR.trans hr, ?_, hx.pe, hx.oe, hx.q, hx.ll, hx.col⟩, hlc⟩
  obtain ⟨h1, h2⟩ := hx.own
  refine ⟨h1, ?_⟩
  rcases h2 with h2 | ⟨g, cap, cur, hv, hg, hh, r⟩
  · exact .inl h2
  · exact .inr ⟨g, cap, cur, hv, hg, ho g _ hh, r⟩
theorem At.drewN {base B R : Nat} {s : ByteArray} {w : World} {k : Nat} {st : Option Nat} {te ch : Int} {pk : ByteArray} {ef : Value} (h : At base B R s w k st te ch pk ef) (n : Nat) : At base B R s (w.drewN n) k st te ch pk ef :=
  h.keep ((Fr.refl base B R w).drewN n).below rfl rfl (fun _ _ h => h)
theorem At.alloc {base B R : Nat} {s : ByteArray} {w : World} {k : Nat} {st : Option Nat} {te ch : Int} {pk : ByteArray} {ef : Value} (h : At base B R s w k st te ch pk ef) (o : Obj) : At base B R s (w.alloc o) k st te ch pk ef := by
  obtain ⟨C, off, p, e, tp, tb, l, hx, hlc⟩ := h.lx
  obtain ⟨pr, hr⟩ := hx.rd
  have hk : ∀ g : Nat, g < w.heap.size → (w.alloc o).heap[g]? = w.heap[g]? := fun g hg => Below.heap_alloc w o g hg
  exact h.keep ((Below.refl base w).alloc h.env.heap o) (hk B (lt_of_row hx.row)) (hk R (lt_of_row hr)) (fun g C hg => (hk g (lt_of_row hg)).trans hg)
theorem At.bw {base B R : Nat} {s : ByteArray} {w : World} {k : Nat} {st : Option Nat} {te ch : Int} {pk : ByteArray} {ef : Value} (h : At base B R s w k st te ch pk ef) : base ≤ B ∧ base ≤ R ∧ B ≠ R ∧ B < w.heap.size ∧ R < w.heap.size := by
  obtain ⟨C, off, p, e, tp, tb, l, hx, hlc⟩ := h.lx
  obtain ⟨pr, hr⟩ := hx.rd
  exact ⟨hx.hB, hx.hR, hx.ne, lt_of_row hx.row, lt_of_row hr⟩
theorem At.setV {base B R V j : Nat} {s : ByteArray} {w : World} {k : Nat} {st : Option Nat} {te ch : Int} {pk : ByteArray} {ef : Value} {C : Array Value} {t : TypeId} (h : At base B R s w k st te ch pk ef)
    (hV : base ≤ V) (hB : V ≠ B) (hR : V ≠ R) (hr : Row w V C t) (ht : t ≠ 5) (v : Value) : At base B R s (w.setCell ⟨V, j, none⟩ v) k st te ch pk ef := by
  refine h.keep ((Below.refl base w).setCell (p := ⟨V, j, none⟩) hV v) (set_oth _ _ _ _ _ (fun e => hB e.symm)) (set_oth _ _ _ _ _ (fun e => hR e.symm)) (fun g D hg => (set_oth _ _ _ _ _ ?_).trans hg)
  rintro rfl
  have e := hg.symm.trans hr
  injection e with e
  injection e with _ e2
  exact ht e2.symm
/-- As Fr, and block V may change too. -/
structure Fx (base B R V : Nat) (w w' : World) : Prop where
  below : Below base w w'
  keep : ∀ k o, w.heap[k]? = some o → k ≠ B → k ≠ R → k ≠ V → (∀ c f, o ≠ .cells c 5 f) → w'.heap[k]? = some o
theorem Fx.refl (base B R V : Nat) (w : World) : Fx base B R V w w := ⟨Below.refl _ _, fun _ _ h _ _ _ _ => h⟩
theorem Fx.trans {base B R V : Nat} {a b c : World} (h : Fx base B R V a b) (k : Fx base B R V b c) : Fx base B R V a c :=
  ⟨h.below.trans k.below, fun i o hi h1 h2 h4 h3 => k.keep i o (h.keep i o hi h1 h2 h4 h3) h1 h2 h4 h3⟩
theorem Fr.fx {base B R : Nat} {a b : World} (h : Fr base B R a b) (V : Nat) : Fx base B R V a b := ⟨h.below, fun k o hk h1 h2 _ h3 => h.keep k o hk h1 h2 h3⟩
theorem Fx.setV {base B R V j : Nat} {a b : World} (h : Fx base B R V a b) (hV : base ≤ V) (v : Value) : Fx base B R V a (b.setCell ⟨V, j, none⟩ v) :=
  ⟨h.below.setCell (p := ⟨V, j, none⟩) hV v, fun k o hk h1 h2 h4 h3 => (heap_setCell_other b ⟨V, j, none⟩ k v h4).trans (h.keep k o hk h1 h2 h4 h3)⟩
theorem Fr.alloc {base B R : Nat} {a b : World} (h : Fr base B R a b) (hs : base ≤ b.heap.size) (o : Obj) : Fr base B R a (b.alloc o) :=
  ⟨h.below.alloc hs o, fun k o' hk h1 h2 h3 => by
    have hb := h.keep k o' hk h1 h2 h3
    exact (Below.heap_alloc b o k (lt_of_row hb)).trans hb⟩
/-- Behind a block made new that may change. -/
theorem Fr.of_fx {base B R V : Nat} {a b c : World} (h : Fr base B R a b) (k : Fx base B R V b c) (hV : a.heap.size ≤ V) : Fr base B R a c :=
  ⟨h.below.trans k.below, fun i o hi h1 h2 h3 => k.keep i o (h.keep i o hi h1 h2 h3) h1 h2 (by have := lt_of_row hi; omega) h3⟩
theorem At.row {base B R : Nat} {s : ByteArray} {w : World} {k : Nat} {st : Option Nat} {te ch : Int} {pk : ByteArray} {ef : Value} (h : At base B R s w k st te ch pk ef) : ∃ C, Row w B C 103 ∧ C[1043]? = some .nilFunc := by
  obtain ⟨C, off, p, e, tp, tb, l, hx, hlc⟩ := h.lx
  exact ⟨C, hx.row, hx.scn.iir⟩
theorem lower_any (c : Int) (w : World) : Calls Tryz.prog 85 #[.int .i32 c] w fun e w' => e = .returned (.int .i32 (bits BinOp.or IntKind.i32 32 c)) ∧ w' = w := by
  go_enter Tryz.func85, Tryz.ntmps85
  go_wp2
  go_ret
  exact ⟨rfl, rfl⟩
def digI (c : Int) : Bool := decide (48 ≤ c) && decide (c ≤ 57)
theorem isDecimal_any (c : Int) (w : World) : Calls Tryz.prog 70 #[.int .i32 c] w fun e w' => e = .returned (.bool (digI c)) ∧ w' = w := by
  by_cases h1 : 48 ≤ c <;> by_cases h2 : c ≤ 57 <;>
  · go_enter Tryz.func70, Tryz.ntmps70
    go_wp2
    go_ret
    exact ⟨by simp [digI, h1, h2], rfl⟩
def letI' (c : Int) : Bool := (decide (65 ≤ c) && decide (c ≤ 90)) || (decide (97 ≤ c) && decide (c ≤ 122))
/-- A rune that begins (i = 0) or goes on (i > 0) a name. -/
def idI (c i : Int) : Bool := (c == 95) || letI' c || (digI c && decide (0 < i))
theorem lo_fin : ∀ n : Fin 128, (decide (97 ≤ bits BinOp.or IntKind.i32 32 (n.val : Int)) && decide (bits BinOp.or IntKind.i32 32 (n.val : Int) ≤ 122)) = letI' (n.val : Int) := by decide
theorem lo_let {c : Int} (h : c = -1 ∨ (0 ≤ c ∧ c < 128)) : (decide (97 ≤ bits BinOp.or IntKind.i32 32 c) && decide (bits BinOp.or IntKind.i32 32 c ≤ 122)) = letI' c := by
  rcases h with rfl | ⟨h1, h2⟩
  · decide
  · obtain ⟨n, rfl⟩ := Int.eq_ofNat_of_zero_le h1
    exact lo_fin ⟨n, by omega⟩
theorem neq_nilF (w : World) : (binOp .neq 94 .nilFunc .nilFunc).run Tryz.prog w = .ok (.bool false) w := by kernel_rfl
set_option maxHeartbeats 1000000 in
theorem isIdentRune_any {w : World} {B : Nat} {C : Array Value} {c i : Int} (hr : Row w B C 103) (h43 : C[1043]? = some .nilFunc) (hc : c = -1 ∨ (0 ≤ c ∧ c < 128)) :
    Calls Tryz.prog 68 #[.pointer (some ⟨B, 0, none⟩), .int .i32 c, .int .i64 i] w fun e w' => e = .returned (.bool (idI c i)) ∧ w' = w := by
  have d := hr.cell h43
  have hl := lo_let hc
  have HL := Lib.hid hl
  have hnf := neq_nilF
  clear hr hl hc
  by_cases h1 : c = 95
  · go_enter Tryz.func68, Tryz.ntmps68
    go_wp2_with (first | (go_at_call 85; refine (lower_any _ _).mono ?_; rintro _ _ ⟨rfl, rfl⟩) | (go_at_call 70; refine (isDecimal_any _ _).mono ?_; rintro _ _ ⟨rfl, rfl⟩))
    go_ret
    refine ⟨?_, rfl⟩
    have HL := HL.out
    simp [idI, h1]
  · by_cases h2 : 97 ≤ bits BinOp.or IntKind.i32 32 c
    · by_cases h3 : bits BinOp.or IntKind.i32 32 c ≤ 122
      · go_enter Tryz.func68, Tryz.ntmps68
        go_wp2_with (first | (go_at_call 85; refine (lower_any _ _).mono ?_; rintro _ _ ⟨rfl, rfl⟩) | (go_at_call 70; refine (isDecimal_any _ _).mono ?_; rintro _ _ ⟨rfl, rfl⟩))
        go_ret
        refine ⟨?_, rfl⟩
        have HL := HL.out
        simp [idI, ← HL, h2, h3]
      · cases h4 : digI c
        · go_enter Tryz.func68, Tryz.ntmps68
          go_wp2_with (first | (go_at_call 85; refine (lower_any _ _).mono ?_; rintro _ _ ⟨rfl, rfl⟩) | (go_at_call 70; refine (isDecimal_any _ _).mono ?_; rintro _ _ ⟨rfl, rfl⟩))
          go_ret
          refine ⟨?_, rfl⟩
          have HL := HL.out
          simp [idI, ← HL, h2, h4]
        · go_enter Tryz.func68, Tryz.ntmps68
          go_wp2_with (first | (go_at_call 85; refine (lower_any _ _).mono ?_; rintro _ _ ⟨rfl, rfl⟩) | (go_at_call 70; refine (isDecimal_any _ _).mono ?_; rintro _ _ ⟨rfl, rfl⟩))
          go_ret
          refine ⟨?_, rfl⟩
          have HL := HL.out
          simp [idI, ← HL, h2, h4]
    · cases h4 : digI c
      · go_enter Tryz.func68, Tryz.ntmps68
        go_wp2_with (first | (go_at_call 85; refine (lower_any _ _).mono ?_; rintro _ _ ⟨rfl, rfl⟩) | (go_at_call 70; refine (isDecimal_any _ _).mono ?_; rintro _ _ ⟨rfl, rfl⟩))
        go_ret
        refine ⟨?_, rfl⟩
        have HL := HL.out
        have h2' : decide (97 ≤ bits BinOp.or IntKind.i32 32 c) = false := decide_eq_false (by omega)
        simp [idI, ← HL, h2', h4]
      · go_enter Tryz.func68, Tryz.ntmps68
        go_wp2_with (first | (go_at_call 85; refine (lower_any _ _).mono ?_; rintro _ _ ⟨rfl, rfl⟩) | (go_at_call 70; refine (isDecimal_any _ _).mono ?_; rintro _ _ ⟨rfl, rfl⟩))
        go_ret
        refine ⟨?_, rfl⟩
        have HL := HL.out
        have h2' : decide (97 ≤ bits BinOp.or IntKind.i32 32 c) = false := decide_eq_false (by omega)
        simp [idI, ← HL, h2', h4]
theorem At.set {base B R : Nat} {s : ByteArray} {w : World} {k : Nat} {st : Option Nat} {te ch te' ch' : Int} {pk : ByteArray} {ef ef' : Value} (h : At base B R s w k st te ch pk ef) (j : Nat) (v : Value) (hj : j ≠ 1048)
    (hs : ∀ off p e lc tp tb C, Scn 1049 s.data.toList (.iface 116 (.pointer (some ⟨R, 0, none⟩))) off p e lc tp te ch tb ef 28 C → Scn 1049 s.data.toList (.iface 116 (.pointer (some ⟨R, 0, none⟩))) off p e lc tp te' ch' tb ef' 28 (C.setIfInBounds j v)) :
    At base B R s (w.setCell ⟨B, j, none⟩ v) k st te' ch' pk ef' := by
  obtain ⟨C, off, p, e, tp, tb, l, hx, hlc⟩ := h.lx
  have hk : ∀ g, g ≠ B → (w.setCell ⟨B, j, none⟩ v).heap[g]? = w.heap[g]? := fun g hg => set_oth _ _ _ _ _ hg
  exact ⟨h.env.mono ((Below.refl base w).setCell (p := ⟨B, j, none⟩) hx.hB v), h.kle, h.sle, _, off, p, e, tp, tb, l, ⟨hx.hB, hx.hR, hx.ne, hx.row.set j v, hs _ _ _ _ _ _ _ hx.scn, (set_ne hj _).trans hx.pkc,
    hx.rd.imp fun _ hr => (hk R (fun e => hx.ne e.symm)).trans hr, own_far hx.own hx.row (by decide) hk, hx.pe, hx.oe, hx.q, hx.ll, hx.col⟩, hlc⟩
theorem At.setCh {base B R : Nat} {s : ByteArray} {w : World} {k : Nat} {st : Option Nat} {te ch : Int} {pk : ByteArray} {ef : Value} (h : At base B R s w k st te ch pk ef) (c : Int) : At base B R s (w.setCell ⟨B, 1038, none⟩ (.int .i32 c)) k st te c pk ef :=
  h.set 1038 _ (by decide) fun _ _ _ _ _ _ _ hs => hs.setCh c
theorem At.chc {base B R : Nat} {s : ByteArray} {w : World} {k : Nat} {st : Option Nat} {te ch : Int} {pk : ByteArray} {ef : Value} (h : At base B R s w k st te ch pk ef) : w.cell? ⟨B, 1038, none⟩ = some (.int .i32 ch) ∧ ∀ j, w.frozen? ⟨B, j, none⟩ = false := by
  obtain ⟨C, off, p, e, tp, tb, l, hx, hlc⟩ := h.lx
  exact ⟨hx.row.cell hx.scn.chv, hx.row.frozen⟩
theorem peek_first {base B R : Nat} {s : ByteArray} {w : World} {te : Int} {pk : ByteArray} {ef : Value} {lc : Int} (he : Env base s w) (h : Lx base B R s w 0 lc none te (-2) pk ef) :
    Calls Tryz.prog 65 #[.pointer (some ⟨B, 0, none⟩)] w fun e w' => e = .returned (.int .i32 (ru s 0)) ∧ Fr base B R w w' ∧ At base B R s w' 0 none te (ru s 0) pk ef := by
  have hnext := first_at he h
  obtain ⟨C, off, p, e, tp, tb, l, hx, hlc⟩ := h
  have d := hx.row.cell hx.scn.chv
  have hb := ru_bounds he 0
  have HB := hx.hB
  have hru : ru s 0 ≠ 65279 := by omega
  clear hx hb
  go_enter Tryz.func65, Tryz.ntmps65
  go_wp2_with (first | (go_at_call 66; refine hnext.mono ?_; rintro e w1 ⟨rfl, hF, hA⟩; obtain ⟨hc1, hf1⟩ := hA.chc; have hA := Lib.hid hA; have hF := Lib.hid hF))
  go_ret
  exact ⟨rfl, hF.out.setB HB _, hA.out.setCh _⟩
theorem peek_later {base B R : Nat} {s : ByteArray} {w : World} {k : Nat} {st : Option Nat} {te ch : Int} {pk : ByteArray} {ef : Value} (h : At base B R s w k st te ch pk ef) (h2 : ch ≠ -2) (h3 : ch ≠ 65279) :
    Calls Tryz.prog 65 #[.pointer (some ⟨B, 0, none⟩)] w fun e w' => e = .returned (.int .i32 ch) ∧ w' = w := by
  obtain ⟨hc1, hf1⟩ := h.chc
  clear h
  go_enter Tryz.func65, Tryz.ntmps65
  go_wp2
  go_ret
  exact ⟨rfl, rfl⟩
theorem idI_pos {c i : Int} (h : 0 < i) : idI c i = idI c 1 := by unfold idI; rw [decide_eq_true h]; rfl
set_option maxHeartbeats 1000000 in
theorem scanIdentifier_any {base B R : Nat} {s : ByteArray} {w : World} {k n : Nat} {st : Option Nat} {te ch : Int} {pk : ByteArray} {ef : Value} (h : At base B R s w k st te ch pk ef) (hk : k < s.size) (hkn : k < n)
    (hid : ∀ j, k < j → j < n → idI (ru s j) 1 = true) (hend : idI (ru s n) 1 = false) :
    Calls Tryz.prog 69 #[.pointer (some ⟨B, 0, none⟩)] w fun e w' => e = .returned (.int .i32 (ru s n)) ∧ Fr base B R w w' ∧ At base B R s w' n st te ch pk ef := by
  have H := Lib.hid h
  have hns : n ≤ s.size := by
    rcases Nat.lt_or_ge s.size n with hc | hc
    · exfalso
      have := hid s.size hk hc
      rw [ru_ge (Nat.le_refl _)] at this
      exact absurd this (by decide)
    · exact hc
  have HID := Lib.hid hid
  have hsz := h.env.size
  clear h hid
  have hnext := next_at H.out hk
  go_enter Tryz.func69, Tryz.ntmps69
  go_wp2_with (first | (go_at_call 66; refine hnext.mono ?_; rintro e w1 ⟨rfl, hF, hA⟩; have hA := Lib.hid hA; have hF := Lib.hid hF))
  go_loopw [3, 4] (fun v i wr => ∃ m : Nat, k < m ∧ m ≤ n ∧ v = .int .i32 (ru s m) ∧ i = .int .i64 ((m - k : Nat) : Int) ∧ Hid (Fr base B R w wr) ∧ Hid (At base B R s wr m st te ch pk ef)) (fun _ i _ => n - (RowKit.intOf i).toNat)
  case atStart => exact ⟨k + 1, by omega, by omega, rfl, by rw [show k + 1 - k = 1 from by omega]; rfl, hF, hA⟩
  case round =>
    obtain ⟨m, hm1, hm2, rfl, rfl, HF, HA⟩ := hrel
    obtain ⟨C, hrow, h43⟩ := HA.out.row
    have hcall := isIdentRune_any (i := ((m - k : Nat) : Int)) hrow h43 (by have := ru_bounds HA.out.env m; omega : ru s m = -1 ∨ (0 ≤ ru s m ∧ ru s m < 128))
    rw [idI_pos (by omega)] at hcall
    clear hrow h43 hnext hF hA
    by_cases hmn : m < n
    · rw [HID.out m hm1 hmn] at hcall
      have hnext := next_at HA.out (by omega)
      go_wp2_with (first | (go_at_call 68; refine hcall.mono ?_; rintro _ _ ⟨rfl, rfl⟩) | (go_at_call 66; refine hnext.mono ?_; rintro e w2 ⟨rfl, hF2, hA2⟩; have hA2 := Lib.hid hA2; have hF2 := Lib.hid hF2))
      go_roundw
      case rel => exact ⟨m + 1, by omega, by omega, rfl, by go_num, Lib.hid (HF.out.trans hF2.out), hA2⟩
      case measure => simp [RowKit.intOf]; omega
    · have hmn : m = n := by omega
      subst hmn
      rw [hend] at hcall
      go_wp2_with (first | (go_at_call 68; refine hcall.mono ?_; rintro _ _ ⟨rfl, rfl⟩))
      go_ret
      exact ⟨rfl, HF.out, HA.out⟩
end Go.Proofs.YtadpeebcombjnaaGreatDoor
namespace Go.Proofs.YtadpeebcombjnaaGreatDoor
open Go Go.Proofs Go.RowKit Go.Lib
set_option maxRecDepth 100000
theorem orA : bits BinOp.or IntKind.i64 0 1 = 1 := by decide
theorem orB : bits BinOp.or IntKind.i64 1 1 = 1 := by decide
theorem orC : bits BinOp.or IntKind.i64 0 0 = 0 := by decide
theorem orD : bits BinOp.or IntKind.i64 1 0 = 1 := by decide
def d01 (b : Bool) : Int := if b then 1 else 0
theorem orT (b : Bool) : bits BinOp.or IntKind.i64 (d01 b) 1 = d01 true := by cases b <;> decide
theorem digI_iff {c : Int} : digI c = true ↔ 48 ≤ c ∧ c ≤ 57 := by simp [digI]
set_option maxHeartbeats 1000000 in
/-- The digits of an exponent: no place is kept for a digit that does not fit the base. -/
theorem digits_nil {base B R : Nat} {s : ByteArray} {w : World} {k n : Nat} {st : Option Nat} {te ch : Int} {pk : ByteArray} {ef : Value} (h : At base B R s w k st te ch pk ef) (hkn : k ≤ n)
    (hdig : ∀ j, k ≤ j → j < n → digI (ru s j) = true) (hend : digI (ru s n) = false) (hus : ru s n ≠ 95) :
    Calls Tryz.prog 86 #[.pointer (some ⟨B, 0, none⟩), .int .i32 (ru s k), .int .i64 10, .pointer none] w fun e w' => e = .returned (.tuple #[.int .i32 (ru s n), .int .i64 (d01 (decide (k < n)))]) ∧ Fr base B R w w' ∧ At base B R s w' n st te ch pk ef := by
  have H := Lib.hid h
  have HD := Lib.hid hdig
  clear h hdig
  go_enter Tryz.func86, Tryz.ntmps86
  go_wp2_with fail
  go_loopg [8, 9, 11] (n - k) (fun g c d ds wr => ∃ m : Nat, m + g = n ∧ k ≤ m ∧ c = .int .i32 (ru s m) ∧ d = .int .i64 (d01 (decide (k < m))) ∧ Hid (Fr base B R w wr) ∧ Hid (At base B R s wr m st te ch pk ef))
  case atStart => exact ⟨k, by omega, Nat.le_refl _, rfl, by rw [decide_eq_false (Nat.lt_irrefl _)]; rfl, Lib.hid (Fr.refl base B R w), H⟩
  case round =>
    obtain ⟨m, hm1, hm2, rfl, rfl, HF, HA⟩ := hrel
    by_cases hmn : m < n
    · have hd := HD.out m hm2 hmn
      obtain ⟨hd1, hd2⟩ := digI_iff.1 hd
      have hms : m < s.size := by
        rcases Nat.lt_or_ge m s.size with hc | hc
        · exact hc
        · rw [ru_ge hc] at hd1; omega
      have hnext := next_at HA.out hms
      have hdc := fun wx => isDecimal_any (ru s m) wx
      rw [hd] at hdc
      have h95 : ¬ ru s m = 95 := by omega
      have hge : ¬ 58 ≤ ru s m := by omega
      go_wp2_with (first | (go_at_call 70; refine (hdc _).mono ?_; rintro _ _ ⟨rfl, rfl⟩) | (go_at_call 66; refine hnext.mono ?_; rintro e w2 ⟨rfl, hF2, hA2⟩; have hA2 := Lib.hid hA2; have hF2 := Lib.hid hF2))
      go_roundg (n - (m + 1))
      case measure => omega
      case rel => exact ⟨m + 1, by omega, by omega, rfl, by rw [orT, decide_eq_true (by omega : k < m + 1)], Lib.hid (HF.out.trans hF2.out), hA2⟩
    · have hmn : m = n := by omega
      subst hmn
      have hdc := fun wx => isDecimal_any (ru s m) wx
      rw [hend] at hdc
      go_wp2_with (first | (go_at_call 70; refine (hdc _).mono ?_; rintro _ _ ⟨rfl, rfl⟩))
      go_ret2
      exact ⟨rfl, HF.out, HA.out⟩

set_option maxHeartbeats 2000000 in
/-- The digits of a mantissa, base 8 or 10: a digit that does not fit may be put by in block V. -/
theorem digits_inv {base B R V : Nat} {s : ByteArray} {w : World} {k n : Nat} {b x : Int} {st : Option Nat} {te ch : Int} {pk : ByteArray} {ef : Value} (h : At base B R s w k st te ch pk ef) (hkn : k ≤ n) (hbb : b = 8 ∨ b = 10)
    (hdig : ∀ j, k ≤ j → j < n → digI (ru s j) = true) (hend : digI (ru s n) = false) (hus : ru s n ≠ 95) (hV : base ≤ V) (hVB : V ≠ B) (hVR : V ≠ R) (hrow : Row w V #[.int .i32 x] 21) :
    Calls Tryz.prog 86 #[.pointer (some ⟨B, 0, none⟩), .int .i32 (ru s k), .int .i64 b, .pointer (some ⟨V, 0, none⟩)] w fun e w' => e = .returned (.tuple #[.int .i32 (ru s n), .int .i64 (d01 (decide (k < n)))]) ∧ Fx base B R V w w' ∧ At base B R s w' n st te ch pk ef ∧ ∃ x' : Int, (b = 10 ∨ k = n → x' = x) ∧ Row w' V #[.int .i32 x'] 21 := by
  have H := Lib.hid h
  have HD := Lib.hid hdig
  have HRow := Lib.hid hrow
  clear h hdig hrow
  have hb10 : b ≤ 10 := by omega
  obtain ⟨mx, hmx⟩ : ∃ mx : Int, IntKind.i32.wrap (IntKind.i64.wrap (48 + b)) = mx := ⟨_, rfl⟩
  go_enter Tryz.func86, Tryz.ntmps86
  go_wp2_with fail
  go_loopg [8, 9, 11] (n - k) (fun g c d ds wr => ∃ m : Nat, m + g = n ∧ k ≤ m ∧ c = .int .i32 (ru s m) ∧ d = .int .i64 (d01 (decide (k < m))) ∧ Hid (Fx base B R V w wr) ∧ Hid (At base B R s wr m st te ch pk ef) ∧ ∃ x' : Int, Hid (b = 10 ∨ k = m → x' = x) ∧ Hid (Row wr V #[.int .i32 x'] 21))
  case atStart => exact ⟨k, by omega, Nat.le_refl _, rfl, by rw [decide_eq_false (Nat.lt_irrefl _)]; rfl, Lib.hid (Fx.refl base B R V w), H, x, Lib.hid (fun _ => rfl), HRow⟩
  case round =>
    obtain ⟨m, hm1, hm2, rfl, rfl, HF, HA, x', HE, HX⟩ := hrel
    by_cases hmn : m < n
    · have hd := HD.out m hm2 hmn
      obtain ⟨hd1, hd2⟩ := digI_iff.1 hd
      have hms : m < s.size := by
        rcases Nat.lt_or_ge m s.size with hc | hc
        · exact hc
        · rw [ru_ge hc] at hd1; omega
      have hdc := fun wx => isDecimal_any (ru s m) wx
      rw [hd] at hdc
      have h95 : ¬ ru s m = 95 := by omega
      have hvc : wr.cell? ⟨V, 0, none⟩ = some (.int .i32 x') := HX.out.cell rfl
      have hvf := HX.out.frozen
      have hA := next_at HA.out hms
      have hB := next_at (HA.out.setV (j := 0) hV hVB hVR HX.out (by decide) (.int .i32 (ru s m))) hms
      have hr2 : Row (wr.setCell ⟨V, 0, none⟩ (.int .i32 (ru s m))) V #[.int .i32 (ru s m)] 21 := HX.out.set 0 _
      have hF3 : Fx base B R V wr (wr.setCell ⟨V, 0, none⟩ (.int .i32 (ru s m))) := (Fx.refl base B R V wr).setV hV _
      have HR2 := Lib.hid hr2
      have HF3 := Lib.hid hF3
      clear hr2 hF3
      go_wp2_with (first | (go_at_call 70; refine (hdc _).mono ?_; rintro _ _ ⟨rfl, rfl⟩) | (go_at_call 66; refine hA.mono ?_; rintro e w2 ⟨rfl, hF2, hA2⟩; have hF2 := Lib.hid hF2; have hA2 := Lib.hid hA2) | (go_at_call 66; refine hB.mono ?_; rintro e w2 ⟨rfl, hF2, hA2⟩; have hF2 := Lib.hid hF2; have hA2 := Lib.hid hA2))
      · go_roundg (n - (m + 1))
        case measure => omega
        case rel => exact ⟨m + 1, by omega, by omega, rfl, by rw [orT, decide_eq_true (by omega : k < m + 1)], Lib.hid ((HF.out.trans HF3.out).trans (hF2.out.fx V)), hA2, _, Lib.hid (fun h => absurd h (by omega)), Lib.hid (hF2.out.keep V _ HR2.out hVB hVR (fun c f e => by injection e with _ e2; exact absurd e2 (by decide)))⟩
      all_goals
        go_roundg (n - (m + 1))
        case measure => omega
        case rel => exact ⟨m + 1, by omega, by omega, rfl, by rw [orT, decide_eq_true (by omega : k < m + 1)], Lib.hid (HF.out.trans (hF2.out.fx V)), hA2, _, Lib.hid (fun h => HE.out (by omega)), Lib.hid (hF2.out.keep V _ HX.out hVB hVR (fun c f e => by injection e with _ e2; exact absurd e2 (by decide)))⟩
    · have hmn : m = n := by omega
      subst hmn
      have hdc := fun wx => isDecimal_any (ru s m) wx
      rw [hend] at hdc
      go_wp2_with (first | (go_at_call 70; refine (hdc _).mono ?_; rintro _ _ ⟨rfl, rfl⟩))
      go_ret2
      exact ⟨rfl, HF.out, HA.out, x', HE.out, HX.out⟩

/-- From k to n stand digits, behind them neither a digit nor '_'. -/
structure Run (s : ByteArray) (k n : Nat) : Prop where
  le : k ≤ n
  dig : ∀ j, k ≤ j → j < n → digI (ru s j) = true
  fin : digI (ru s n) = false
  us : ru s n ≠ 95
theorem lt_of_ru {s : ByteArray} {k : Nat} (h : ru s k ≠ -1) : k < s.size := by
  rcases Nat.lt_or_ge k s.size with hc | hc
  · exact hc
  · exact absurd (ru_ge hc) h
theorem orU (b : Bool) : bits BinOp.or IntKind.i64 1 (d01 b) = 1 := by cases b <;> decide
theorem andA : bits BinOp.and IntKind.i64 1 1 = 1 := by decide
theorem andB : bits BinOp.and IntKind.i64 1 2 = 0 := by decide
theorem andM : bits BinOp.and IntKind.u64 28 16 = 16 := by decide
theorem d01_lt {k n : Nat} (h : k < n) : d01 (decide (k < n)) = 1 := by rw [decide_eq_true h]; rfl
theorem At.mode {base B R : Nat} {s : ByteArray} {w : World} {k : Nat} {st : Option Nat} {te ch : Int} {pk : ByteArray} {ef : Value} (h : At base B R s w k st te ch pk ef) : w.cell? ⟨B, 1041, none⟩ = some (.int .u64 28) := by
  obtain ⟨C, off, p, e, tp, tb, l, hx, hlc⟩ := h.lx
  exact hx.row.cell hx.scn.modev
theorem digits_run {base B R V : Nat} {s : ByteArray} {w : World} {k n : Nat} {b x : Int} {st : Option Nat} {te ch : Int} {pk : ByteArray} {ef : Value} (h : At base B R s w k st te ch pk ef) (hr : Run s k n) (hbb : b = 8 ∨ b = 10)
    (hV : base ≤ V) (hVB : V ≠ B) (hVR : V ≠ R) (hrow : Row w V #[.int .i32 x] 21) :
    Calls Tryz.prog 86 #[.pointer (some ⟨B, 0, none⟩), .int .i32 (ru s k), .int .i64 b, .pointer (some ⟨V, 0, none⟩)] w fun e w' => e = .returned (.tuple #[.int .i32 (ru s n), .int .i64 (d01 (decide (k < n)))]) ∧ Fx base B R V w w' ∧ At base B R s w' n st te ch pk ef ∧ ∃ x' : Int, (b = 10 ∨ k = n → x' = x) ∧ Row w' V #[.int .i32 x'] 21 :=
  digits_inv h hr.le hbb hr.dig hr.fin hr.us hV hVB hVR hrow
/-- What stands behind the mantissa that ends at n: an exponent up to m, or none. -/
def ExpAt (s : ByteArray) (n m : Nat) : Prop :=
  (bits BinOp.or IntKind.i32 32 (ru s n) = 101 ∧ ∃ q, ((ru s (n + 1) = 43 ∨ ru s (n + 1) = 45) ∧ q = n + 2 ∨ ru s (n + 1) ≠ 43 ∧ ru s (n + 1) ≠ 45 ∧ q = n + 1) ∧ Run s q m ∧ q < m) ∨
  (bits BinOp.or IntKind.i32 32 (ru s n) ≠ 101 ∧ bits BinOp.or IntKind.i32 32 (ru s n) ≠ 112 ∧ m = n)
theorem ExpAt.view {s : ByteArray} {n m : Nat} (h : ExpAt s n m) :
    (Hid (bits BinOp.or IntKind.i32 32 (ru s n) = 101) ∧ (bits BinOp.or IntKind.i32 32 (ru s n) == 101) = true ∧ bits BinOp.or IntKind.i32 32 (ru s n) ≠ 112 ∧ ∃ q, (Hid (ru s (n + 1) = 43 ∨ ru s (n + 1) = 45) ∧ (ru s (n + 1) == 43) = true ∧ q = n + 2 ∨
      Hid (ru s (n + 1) = 43 ∨ ru s (n + 1) = 45) ∧ (ru s (n + 1) == 43) = false ∧ (ru s (n + 1) == 45) = true ∧ q = n + 2 ∨ (ru s (n + 1) == 43) = false ∧ (ru s (n + 1) == 45) = false ∧ q = n + 1) ∧ Run s q m ∧ q < m) ∨
    (bits BinOp.or IntKind.i32 32 (ru s n) ≠ 101 ∧ bits BinOp.or IntKind.i32 32 (ru s n) ≠ 112 ∧ m = n) := by
  rcases h with ⟨h1, q, h2, h3⟩ | h
  · refine .inl ⟨Lib.hid h1, beq_iff_eq.2 h1, by rw [h1]; decide, q, ?_, h3⟩
    rcases h2 with ⟨h2 | h2, h4⟩ | h2
    · exact .inl ⟨Lib.hid (.inl h2), beq_iff_eq.2 h2, h4⟩
    · exact .inr (.inl ⟨Lib.hid (.inr h2), by rw [h2]; rfl, beq_iff_eq.2 h2, h4⟩)
    · exact .inr (.inr ⟨beq_eq_false_iff_ne.2 h2.1, beq_eq_false_iff_ne.2 h2.2.1, h2.2.2⟩)
  · exact .inr h
/-- A byte that parts tokens. -/
def blI (c : Int) : Bool := (c == 9) || (c == 10) || (c == 13) || (c == 32)
theorem own_reset {w : World} {base n : Nat} {a : Option Addr} {l c : Nat} {xs : List Value} (h : w.ownsRow base 5 1 (.slice a l c) n xs) : w.ownsRow base 5 1 (.slice a 0 c) 0 [] := by
  refine ⟨rfl, ?_⟩
  rcases h.2 with ⟨h1, h2⟩ | ⟨g, cap, cur, hv, hg, hh, h1, h2, h3, h4⟩
  · injection h1 with e1 e2 e3
    subst e1 e3
    exact .inl ⟨rfl, rfl⟩
  · injection hv with e1 e2 e3
    subst e1 e3
    exact .inr ⟨g, c, cur, rfl, hg, hh, Nat.zero_le _, h2, h3, by simp⟩
/-- No text is gathered any more. -/
theorem At.forget {base B R : Nat} {s : ByteArray} {w : World} {k : Nat} {st : Option Nat} {te ch : Int} {pk : ByteArray} {ef : Value} (h : At base B R s w k st te ch pk ef) : At base B R s (w.setCell ⟨B, 1036, none⟩ (.int .i64 (-1))) k none te ch pk ef := by
  obtain ⟨C, off, p, e, tp, tb, l, hx, hlc⟩ := h.lx
  have hk : ∀ g, g ≠ B → (w.setCell ⟨B, 1036, none⟩ (.int .i64 (-1))).heap[g]? = w.heap[g]? := fun g hg => set_oth _ _ _ _ _ hg
  exact ⟨h.env.mono ((Below.refl base w).setCell (p := ⟨B, 1036, none⟩) hx.hB _), h.kle, nofun, _, off, p, e, -1, tb, l, ⟨hx.hB, hx.hR, hx.ne, hx.row.set 1036 _, hx.scn.setTp (-1), (set_ne (by decide) _).trans hx.pkc,
    hx.rd.imp fun _ hr => (hk R (fun e => hx.ne e.symm)).trans hr, own_far hx.own hx.row (by decide) hk, hx.pe, hx.oe, hx.q, hx.ll, rfl⟩, hlc.1, by omega⟩
end Go.Proofs.YtadpeebcombjnaaGreatDoor
