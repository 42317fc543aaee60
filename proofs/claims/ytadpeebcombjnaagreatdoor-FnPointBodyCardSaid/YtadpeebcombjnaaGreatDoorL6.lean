/- Scanner.next at the end of its buffer: the token's head is put by, the text's next bytes are read, or its end is told. -/
import Derived.Test.YtadpeebcombjnaaGreatDoorL5
import Derived.StillTailTactics
import Derived.Deep.DeepCutAuto
import Derived.Outline
import Derived.Deep.RegionHeld3
namespace Go.Proofs.YtadpeebcombjnaaGreatDoor
open Go Go.Proofs Go.RowKit Go.Lib
set_option maxRecDepth 100000
theorem size5 (w : World) : (sizeOf 5).run Tryz.prog w = .ok 1 w := by kernel_rfl
theorem sliceAt86 (B lo hi : Nat) (h1 : lo ≤ hi) (h2 : hi ≤ 1024) (w : World) :
    (Instr.sliceAt 86 (.pointer (some ⟨B, 1, none⟩)) (some (.int .i64 (lo : Int))) (some (.int .i64 (hi : Int))) none).run Tryz.prog w = .ok (.slice (some ⟨B, 1 + lo, none⟩) (hi - lo) (1025 - lo)) w := by
  have e3 : ¬ 1025 = lo := by omega
  by_cases h0 : lo = 0
  · subst h0
    simp [Instr.sliceAt, Instr.sureAddr, run_underlying Tryz.underlying86, Instr.sliceBounds, Instr.sliceBound, asIntOf, Addr.add]
    intro hc; omega
  · simp [Instr.sliceAt, Instr.sureAddr, run_underlying Tryz.underlying86, Instr.sliceBounds, Instr.sliceBound, asIntOf, Addr.add, h1, e3, h0]
    intro hc; omega
theorem sliceAt86_lo (B : Nat) (w : World) :
    (Instr.sliceAt 86 (.pointer (some ⟨B, 1, none⟩)) (some (.int .i64 0)) none none).run Tryz.prog w = .ok (.slice (some ⟨B, 1, none⟩) 1025 1025) w := by
  simp [Instr.sliceAt, Instr.sureAddr, run_underlying Tryz.underlying86, Instr.sliceBounds, Instr.sliceBound, asIntOf, Addr.add]
theorem LX.drewN {base B R : Nat} {s : ByteArray} {w : World} {q : Nat} {lc : Int} {col : Option (List UInt8)} {te ch : Int} {pk : ByteArray} {ef : Value} {C : Array Value} {off p e : Nat} {tp : Int} {tb : Value} {l : List UInt8}
    (h : LX base B R s w q lc col te ch pk ef C off p e tp tb l) (n : Nat) : LX base B R s (w.drewN n) q lc col te ch pk ef C off p e tp tb l :=
  ⟨h.hB, h.hR, h.ne, h.row, h.scn, h.pkc, h.rd, h.own, h.pe, h.oe, h.q, h.ll, h.col⟩
theorem comp199 : (Tryz.prog.info? 199).map (·.comparable) = some true := by kernel_rfl
theorem some201 : (Tryz.prog.info? 201).isSome = true := by kernel_rfl
theorem eq_err (a : Addr) (d : Nat) (w : World) : (Op.equalIn (d + 2) 45 (.iface 199 (.pointer (some a))) (.iface 199 (.pointer (some a)))).run Tryz.prog w = .ok true w := by
  cases hi : Tryz.prog.info? 199 with
  | none => have := comp199; simp [hi] at this
  | some i =>
    have hc := comp199
    rw [hi] at hc
    cases hj : Tryz.prog.info? 201 with
    | none => have := some201; simp [hj] at this
    | some j => exact run_equalIn_iface_ptr_same w d a Tryz.underlying45 Tryz.underlying199 hi (by simpa using hc) hj
theorem eql_err (a : Addr) (w : World) : (binOp .eql 45 (.iface 199 (.pointer (some a))) (.iface 199 (.pointer (some a)))).run Tryz.prog w = .ok (.bool true) w := by
  simp only [binOp]
  simp [Op.equal, Op.maxDepth, eq_err a 9998 w]
theorem neq_err (a : Addr) (w : World) : (binOp .neq 45 (.iface 199 (.pointer (some a))) (.iface 199 (.pointer (some a)))).run Tryz.prog w = .ok (.bool false) w := by
  simp only [binOp]
  simp [Op.equal, Op.maxDepth, eq_err a 9998 w]
theorem at_some {C : Array Value} {k : Nat} (h : k < C.size) : ∃ v, C[k]? = some v := ⟨_, Array.getElem?_eq_getElem h⟩
theorem nil_read (a : Addr) (w : World) : (nilAhead 157 116 (.pointer (some a)) "Read").run Tryz.prog w = .ok (some false) w := by kernel_rfl
theorem nil_read' (a : Addr) (w : World) : (nilAhead 369 116 (.pointer (some a)) "Read").run Tryz.prog w = .ok (some false) w := by kernel_rfl
theorem method_read' (a : Addr) (w : World) : (method 369 116 (.pointer (some a)) "Read").run Tryz.prog w = .ok (177, .pointer (some a)) w := by kernel_rfl
theorem method_read (a : Addr) (w : World) : (method 157 116 (.pointer (some a)) "Read").run Tryz.prog w = .ok (177, .pointer (some a)) w := by kernel_rfl
theorem Scn.three {n : Nat} {T : List UInt8} {ri : Value} {off p e : Nat} {lc tp te ch : Int} {tb ef : Value} {mode : Int} {C : Array Value} (h : Scn n T ri off p e lc tp te ch tb ef mode C) {D : Array Value} {v : Value} {lr : Int} (h0 : D[1033]? = some v) (h1 : D[1034]? = some (.int .i64 0)) (h2 : D[1035]? = some (.int .i8 lr)) (hD : ∀ i, (i < 1033 ∨ 1033 + 3 ≤ i) → D[i]? = C[i]?) : Scn n T ri off p e lc tp te ch v ef mode D where
  size := by
    have hs := h.size
    have hb := h.big
    have e1 := hD C.size (by omega)
    rw [Array.getElem?_eq_none (Nat.le_refl _)] at e1
    have l1 := Array.getElem?_eq_none_iff.1 e1
    have e2 := hD (C.size - 1) (by omega)
    rw [Array.getElem?_eq_getElem (by omega : C.size - 1 < C.size)] at e2
    have l2 := (Array.getElem?_eq_some_iff.1 e2).1
    omega
  big := h.big
  ele := h.ele
  buf := fun i hi => (hD _ (by have := h.ele; omega)).trans (h.buf i hi)
  sent := (hD _ (by have := h.ele; omega)).trans h.sent
  src := (hD _ (by decide)).trans h.src
  pos := (hD _ (by decide)).trans h.pos
  endp := (hD _ (by decide)).trans h.endp
  boff := (hD _ (by decide)).trans h.boff
  line := h.line.imp fun _ hx => (hD _ (by decide)).trans hx
  col := h.col.imp fun _ hx => (hD _ (by decide)).trans hx
  lll := h.lll.imp fun _ hx => (hD _ (by decide)).trans hx
  lcl := (hD _ (by decide)).trans h.lcl
  tbv := h0
  tbo := h1
  tbl := ⟨_, h2⟩
  tpv := (hD _ (by decide)).trans h.tpv
  tev := (hD _ (by decide)).trans h.tev
  chv := (hD _ (by decide)).trans h.chv
  efv := (hD _ (by decide)).trans h.efv
  ec := h.ec.imp fun _ hx => (hD _ (by decide)).trans hx
  modev := (hD _ (by decide)).trans h.modev
  ws := (hD _ (by decide)).trans h.ws
  iir := (hD _ (by decide)).trans h.iir
  fnm := h.fnm.imp fun _ hx => (hD _ (by decide)).trans hx
  o1 := h.o1.imp fun _ hx => (hD _ (by decide)).trans hx
  l1 := h.l1.imp fun _ hx => (hD _ (by decide)).trans hx
  c1 := h.c1.imp fun _ hx => (hD _ (by decide)).trans hx
theorem Gl.mono {base : Nat} {w w' : World} (h : Gl w) (hb : Below base w w') (hN : 24 ≤ base) : Gl w' :=
  ⟨fun c hc => (hb.cell (p := ⟨3, c, none⟩) (show 3 < base by omega)).trans (h.first c hc), h.eof.imp fun _ ha => (hb.cell (p := ⟨2, 0, none⟩) (show 2 < base by omega)).trans ha⟩
theorem LX.buffer {base B R : Nat} {s : ByteArray} {w : World} {q : Nat} {lc : Int} {col : Option (List UInt8)} {te ch : Int} {pk : ByteArray} {ef : Value} {C : Array Value} {off p e : Nat} {tp : Int} {tb : Value} {l : List UInt8}
    (h : LX base B R s w q lc col te ch pk ef C off p e tp tb l) : LibA.IsBuffer 103 (fun i => C[i]?) 5 base B 1033 (byteCells l) w := by
  obtain ⟨lr, hlr⟩ := h.scn.tbl
  refine ⟨h.hB, tb, lr, ⟨C, h.row, h.scn.tbv, h.scn.tbo, hlr, fun i _ => rfl⟩, by rw [byteCells_length]; exact h.own, ?_⟩
  rcases h.own.2 with ⟨rfl, _⟩ | ⟨g, cap, cur, rfl, hg, hh, r⟩
  · simp [Value.ownBlock]
  · simp only [Value.ownBlock]
    intro e
    obtain rfl := Option.some.inj e
    have e := hh.symm.trans h.row
    injection e with e
    injection e with _ e2
    exact absurd e2 (by decide)
theorem lay_size (C : Array Value) (o : Nat) (vs : List Value) (h : o + vs.length ≤ C.size) : (lay C o vs).size = C.size := by
  unfold lay
  simp only [List.size_toArray, List.length_append, List.length_take, List.length_drop, Array.length_toList]
  omega
theorem lay_get (C : Array Value) (o : Nat) (vs : List Value) (h : o + vs.length ≤ C.size) (k : Nat) : (lay C o vs)[k]? = if o ≤ k ∧ k < o + vs.length then vs[k - o]? else C[k]? := by
  unfold lay
  rw [List.getElem?_toArray, List.append_assoc, List.getElem?_append, List.length_take, Array.length_toList, Nat.min_eq_left (by omega)]
  by_cases h1 : k < o
  · rw [if_pos h1, if_neg (by omega), List.getElem?_take, if_pos h1, Array.getElem?_toList]
  · rw [if_neg h1, List.getElem?_append]
    by_cases h2 : k - o < vs.length
    · rw [if_pos h2, if_pos (by omega)]
    · rw [if_neg h2, if_neg (by omega), List.getElem?_drop, Array.getElem?_toList]
      congr 1
      omega
theorem Scn.refill {T : List UInt8} {ri : Value} {off p e : Nat} {lc tp te ch : Int} {tb ef : Value} {C : Array Value} (h : Scn 1049 T ri off p e lc tp te ch tb ef 28 C) {D : Array Value} (hs : D.size = 1049) (n q : Nat) (hn : n ≤ 1024)
    (hbuf : ∀ i, i < n → D[1 + i]? = some (.int .u8 ((T.getD (q + i) 0).toNat : Int))) (hsent : D[1 + n]? = some (.int .u8 128)) (h26 : D[1026]? = some (.int .i64 0)) (h27 : D[1027]? = some (.int .i64 (n : Nat))) (h28 : D[1028]? = some (.int .i64 (q : Nat)))
    (hD : ∀ k, (k = 0 ∨ 1029 ≤ k) → D[k]? = C[k]?) : Scn 1049 T ri q 0 n lc tp te ch tb ef 28 D where
  size := hs
  big := by decide
  ele := hn
  buf := hbuf
  sent := hsent
  pos := h26
  endp := h27
  boff := h28
  src := (hD _ (by decide)).trans h.src
  line := h.line.imp fun _ hx => (hD _ (by decide)).trans hx
  col := h.col.imp fun _ hx => (hD _ (by decide)).trans hx
  lll := h.lll.imp fun _ hx => (hD _ (by decide)).trans hx
  lcl := (hD _ (by decide)).trans h.lcl
  tbv := (hD _ (by decide)).trans h.tbv
  tbo := (hD _ (by decide)).trans h.tbo
  tbl := h.tbl.imp fun _ hx => (hD _ (by decide)).trans hx
  tpv := (hD _ (by decide)).trans h.tpv
  tev := (hD _ (by decide)).trans h.tev
  chv := (hD _ (by decide)).trans h.chv
  efv := (hD _ (by decide)).trans h.efv
  ec := h.ec.imp fun _ hx => (hD _ (by decide)).trans hx
  modev := (hD _ (by decide)).trans h.modev
  ws := (hD _ (by decide)).trans h.ws
  iir := (hD _ (by decide)).trans h.iir
  fnm := h.fnm.imp fun _ hx => (hD _ (by decide)).trans hx
  o1 := h.o1.imp fun _ hx => (hD _ (by decide)).trans hx
  l1 := h.l1.imp fun _ hx => (hD _ (by decide)).trans hx
  c1 := h.c1.imp fun _ hx => (hD _ (by decide)).trans hx
theorem refill_scn {T : List UInt8} {ri : Value} {off p e : Nat} {lc tp te ch : Int} {tb ef : Value} {C : Array Value} (h : Scn 1049 T ri off p e lc tp te ch tb ef 28 C) (n q : Nat) (hn : n ≤ 1024) (hq : q + n ≤ T.length) :
    Scn 1049 T ri q 0 n lc tp te ch tb ef 28 ((((lay (C.setIfInBounds 1028 (.int .i64 (q : Nat))) 1 (byteCells ((T.drop q).take n))).setIfInBounds 1026 (.int .i64 0)).setIfInBounds 1027 (.int .i64 (n : Nat))).setIfInBounds (1 + n) (.int .u8 128)) := by
  have hl : (byteCells ((T.drop q).take n)).length = n := by rw [byteCells_length, List.length_take, List.length_drop]; omega
  have hs : (C.setIfInBounds 1028 (.int .i64 (q : Nat))).size = 1049 := by rw [Array.size_setIfInBounds]; exact h.size
  have hf : 1 + (byteCells ((T.drop q).take n)).length ≤ (C.setIfInBounds 1028 (.int .i64 (q : Nat))).size := by rw [hl, hs]; omega
  have hls := lay_size _ 1 _ hf
  have hlg := lay_get _ 1 _ hf
  rw [hl] at hlg
  refine h.refill (by simp only [Array.size_setIfInBounds]; rw [hls, hs]) n q hn ?_ (set_eq (by simp only [Array.size_setIfInBounds]; rw [hls, hs]; omega) _) ?_ ?_ ?_ ?_
  · intro i hi
    rw [set_ne (by omega), set_ne (by omega), set_ne (by omega), hlg, if_pos (by omega), show 1 + i - 1 = i from by omega]
    simp only [byteCells, List.getElem?_map]
    rw [List.getElem?_take, if_pos hi, List.getElem?_drop, List.getD_eq_getElem?_getD, List.getElem?_eq_getElem (by omega)]
    rfl
  · rw [set_ne (by omega), set_ne (by omega)]
    exact set_eq (by rw [hls, hs]; omega) _
  · rw [set_ne (by omega)]
    exact set_eq (by simp only [Array.size_setIfInBounds]; rw [hls, hs]; omega) _
  · rw [set_ne (by omega), set_ne (by omega), set_ne (by omega), hlg, if_neg (by omega)]
    exact set_eq (by rw [h.size]; omega) _
  · intro k hk
    rw [set_ne (by omega), set_ne (by omega), set_ne (by omega), hlg, if_neg (by omega), set_ne (by omega)]
theorem hs1024 (B : Nat) (w : World) : (Instr.sliceAt 86 (.pointer (some ⟨B, 1, none⟩)) (some (.int .i64 0)) (some (.int .i64 1024)) none).run Tryz.prog w = .ok (.slice (some ⟨B, 1, none⟩) 1024 1025) w := sliceAt86 B 0 1024 (by decide) (by decide) w
/-- The scanner's memory, wherever it stands. -/
structure LR (base B R : Nat) (s : ByteArray) (w : World) (lc te ch : Int) (pk : ByteArray) (ef : Value) (C : Array Value) (off p e : Nat) (tp : Int) (tb : Value) (l : List UInt8) : Prop where
  hB : base ≤ B
  hR : base ≤ R
  ne : B ≠ R
  row : Row w B C 103
  scn : Scn 1049 s.data.toList (.iface 116 (.pointer (some ⟨R, 0, none⟩))) off p e lc tp te ch tb ef 28 C
  pkc : C[1048]? = some (.string pk)
  own : w.ownsRow base 5 1 tb l.length (byteCells l)
  ll : l.length ≤ off + p
def ColZ (tp : Int) (l : List UInt8) : Option (List UInt8) → Prop
  | none => tp = -1
  | some t => tp = 0 ∧ t = l
theorem LR.drewN {base B R : Nat} {s : ByteArray} {w : World} {lc te ch : Int} {pk : ByteArray} {ef : Value} {C : Array Value} {off p e : Nat} {tp : Int} {tb : Value} {l : List UInt8}
    (h : LR base B R s w lc te ch pk ef C off p e tp tb l) (n : Nat) : LR base B R s (w.drewN n) lc te ch pk ef C off p e tp tb l :=
  ⟨h.hB, h.hR, h.ne, h.row, h.scn, h.pkc, h.own, h.ll⟩
theorem colz_of {L : List UInt8} {off p : Nat} {tp : Int} {l : List UInt8} {col : Option (List UInt8)} (hz : ColZ tp l col) (hl : l.length ≤ off + p) : ColOf L (off + p) 0 tp l col := by
  cases col with
  | none => exact hz
  | some t =>
    obtain ⟨h1, h2⟩ := hz
    refine ⟨0, h1, Nat.le_refl _, hl, ?_⟩
    rw [h2]; simp
theorem fullRune_same (b o n c : Nat) (x : Nat) (w : World) (hn : 0 < n) (hn2 : n ≤ 100000) (hx : x < 128) (hc : w.cell? ⟨b, o, none⟩ = some (.int .u8 (x : Nat)))
    (hF : w.cell? ⟨3, x, none⟩ = some (.int .u8 240)) :
    Calls Tryz.prog 82 #[.slice (some ⟨b, o, none⟩) n c] w fun e w' => e = .returned (.bool true) ∧ w = w' := by
  go_enter Tryz.func82, Tryz.ntmps82
  go_wp2
  go_ret
  exact ⟨rfl, rfl⟩
theorem eof_close {base B R : Nat} {s : ByteArray} {w2 : World} {lc te ch : Int} {pk : ByteArray} {ef : Value} {C1 : Array Value} {off p q : Nat} {tp1 : Int} {tb1 : Value} {l1 : List UInt8} {col : Option (List UInt8)}
    (hL : LR base B R s w2 lc te ch pk ef C1 off p p tp1 tb1 l1) (hz : ColZ tp1 l1 col) (hq : q = off + p) (hend : s.size ≤ off + p) (hoe : off + p ≤ s.size) {W w7 w8 : World} {pr : Int} {D7 D : Array Value}
    (hR7 : Row w7 R #[.string s, .int .i64 (off + p : Nat), .int .i64 pr] 126) (hO7 : w7.ownsRow base 5 1 tb1 l1.length (byteCells l1)) (h7 : Row w7 B D7 103) (hk : ∀ k, k ≠ B → w8.heap[k]? = w7.heap[k]?)
    (hD : Row w8 B D 103) (hscn : Scn 1049 s.data.toList (.iface 116 (.pointer (some ⟨R, 0, none⟩))) (off + p) 0 0 0 tp1 te ch tb1 ef 28 D) (hpk : D[1048]? = some (.string pk)) (hF : Fr base B R W w8) :
    NextPost base B R s q col te ch pk ef W (.returned (.int .i32 (-1))) w8 := by
  refine ⟨hF, .inr ⟨by omega, rfl, D, off + p, 0, 0, tp1, tb1, l1, ⟨hL.hB, hL.hR, hL.ne, hD, hscn, hpk, ⟨pr, (hk R (fun e => hL.ne e.symm)).trans hR7⟩, own_far hO7 h7 (by decide) hk, Nat.le_refl _, hoe, by omega, Nat.le_trans hL.ll (by omega), ?_⟩, Int.le_refl _, ?_⟩⟩
  rotate_left
  · cases col with
    | none => have h : tp1 = -1 := hz
              omega
    | some t => obtain ⟨h1, _⟩ := hz
                omega
  cases col with
  | none => exact hz
  | some t =>
    obtain ⟨h1, h2⟩ := hz
    refine ⟨0, h1, Nat.le_refl _, Nat.le_trans hL.ll (by omega), ?_⟩
    rw [h2]; simp
def CutRel (base B R : Nat) (s : ByteArray) (W : World) (lc : Int) (col : Option (List UInt8)) (te ch : Int) (pk : ByteArray) (ef : Value) (off p : Nat) (wx : World) : Prop :=
  Fr base B R W wx ∧ Gl wx ∧ base ≤ wx.heap.size ∧ (∃ pr : Int, Row wx R #[.string s, .int .i64 (off + p : Nat), .int .i64 pr] 126) ∧ off + p ≤ s.size ∧ ∃ C tp tb l, LR base B R s wx lc te ch pk ef C off p p tp tb l ∧ ColZ tp l col
set_option maxHeartbeats 4000000 in
theorem next_slow {base B R : Nat} {s : ByteArray} {w : World} {q : Nat} {lc : Int} {col : Option (List UInt8)} {te ch : Int} {pk : ByteArray} {ef : Value} {C : Array Value} {off p : Nat} {tp : Int} {tb : Value} {l : List UInt8}
    (h : LX base B R s w q lc col te ch pk ef C off p p tp tb l) (hasc : ∀ i (h : i < s.size), 9 ≤ (s[i].toNat : Int) ∧ (s[i].toNat : Int) < 128) (hs : s.size ≤ 2000) (hb : base ≤ w.heap.size) (hN : 24 ≤ base) (hG : Gl w) :
    Calls Tryz.prog 66 #[.pointer (some ⟨B, 0, none⟩)] w (NextPost base B R s q col te ch pk ef w) := by
  obtain ⟨x30, c30⟩ := h.scn.col
  have d26 := h.row.cell h.scn.pos
  have d27 := h.row.cell h.scn.endp
  have d28 := h.row.cell h.scn.boff
  have dch := h.row.cell h.scn.sent
  have d30 := h.row.cell c30
  have d32 := h.row.cell h.scn.lcl
  have d36 := h.row.cell h.scn.tpv
  have d0 := h.row.cell h.scn.src
  have hfr := h.row.frozen
  have hp2 : p ≤ 1024 := h.scn.ele
  have H := Lib.hid h
  have HA := Lib.hid hasc
  clear h hasc c30
  have hg : decide ((p : Int) < (p : Int) + 4) = true := decide_eq_true (by omega)
  have hw4 : IntKind.i64.wrap ((p : Int) + 4) = (p : Int) + 4 := IntWalk.i64_in _ (by omega)
  have hsl := fun wx => sliceAt86 B p p (Nat.le_refl _) hp2 wx
  rw [Nat.sub_self] at hsl
  have hnr := nil_read ⟨R, 0, none⟩
  have hmr := method_read ⟨R, 0, none⟩
  go_enter Tryz.func66, Tryz.ntmps66
  go_wp2
  go_quiet (fail)
  go_wp2_with fail
  have hW : LX base B R s (w.drewN nq) q lc col te ch pk ef C off p p tp tb l := H.out.drewN nq
  have hGW : Gl (w.drewN nq) := ⟨hG.first, hG.eof⟩
  have HFr := Lib.hid ((Fr.refl base B R w).drewN nq)
  have hbW : base ≤ (w.drewN nq).heap.size := hb
  clear d26 d27 d28 dch d30 d32 d36 d0 hfr H hG hb
  generalize w.drewN nq = W at *
  have h := hW
  obtain ⟨x30, c30⟩ := h.scn.col
  have d26 := h.row.cell h.scn.pos
  have d27 := h.row.cell h.scn.endp
  have d28 := h.row.cell h.scn.boff
  have dch := h.row.cell h.scn.sent
  have d30 := h.row.cell c30
  have d32 := h.row.cell h.scn.lcl
  have d36 := h.row.cell h.scn.tpv
  have d0 := h.row.cell h.scn.src
  have hfr := h.row.frozen
  have H := Lib.hid h
  have HG := Lib.hid hGW
  clear h hW c30 hGW
  refine wp_loop_rounds 2 ?_
  rw [rounds_succ]
  go_wp2_with fail
  go_quiet ((go_at_call 82; exact Calls.quiet_of_same ((fullRune_none _ _ _).mono fun _ _ h => ⟨h.1, h.2.symm⟩)))
  clear hg hw4
  go_upto_if 50 with (fail)
  go_cut [] (fun wx => CutRel base B R s W lc col te ch pk ef off p wx)
  case first =>
    cases col with
    | none =>
      have htp : tp = -1 := H.out.col
      subst htp
      go_wp2
      go_meet
      exact ⟨(Fr.refl base B R W).drewN nq, ⟨HG.out.first, HG.out.eof⟩, hbW, H.out.rd, H.out.oe, C, -1, tb, l, ⟨H.out.hB, H.out.hR, H.out.ne, H.out.row, H.out.scn, H.out.pkc, H.out.own, H.out.ll⟩, rfl⟩
    | some t =>
      obtain ⟨a, ha1, ha2, ha2b, ha3⟩ := H.out.col
      subst ha1
      have HT := Lib.hid ha3
      clear ha3
      have hslw := fun wx => sliceAt86 B a p ha2 hp2 wx
      go_wp2_with fail
      have hbuf := (H.out.drewN nq).buffer
      have hbw2 : base ≤ (W.drewN nq).heap.size := hbW
      have e26 : (W.drewN nq).cell? ⟨B, 1026, none⟩ = some (.int .i64 (p : Int)) := d26
      have e36 : (W.drewN nq).cell? ⟨B, 1036, none⟩ = some (.int .i64 (a : Int)) := d36
      have hrow2 := (H.out.drewN nq).row
      have HX := Lib.hid (H.out.drewN nq)
      have HF2 := Lib.hid ((Fr.refl base B R W).drewN nq)
      clear d26 d27 d28 dch d30 d32 d36 d0 hfr hsl
      generalize W.drewN nq = W2 at hbuf hbw2 e26 e36 hrow2 HX HF2 ⊢
      refine wp_region_still_tail 15 (by kernel_rfl) (by kernel_rfl) ?_
      simp only [List.take_succ_cons, List.take_zero, List.drop_succ_cons, List.drop_zero]
      rw [show ({ heap := W2.heap, tape := W2.tape, drawn := W2.drawn + 1, os := W2.os, output := W2.output } : World) = W2.drew from rfl]
      repeat still_step
      refine wpStill_nil ?_
      go_wp2_with fail
      refine (write_any (fun i => C[i]?) base B 1033 (byteCells l) (byteCells ((s.data.toList.drop (off + a)).take (p - a))) (1 + a) (p - a) (1025 - a) W2.drew hbuf hbw2 (byteCells_one _) (by rw [byteCells_length, List.length_take, List.length_drop, size_list]; have := HX.out.oe; omega) (fun j hj => by omega) ?_ (byteCells_one _) (by rw [byteCells_length]; have := HX.out.ll; have := HX.out.oe; omega)).mono ?_
      · intro j v hj
        have hjl := (List.getElem?_eq_some_iff.1 hj).1
        rw [byteCells_length, List.length_take, List.length_drop, size_list] at hjl
        rw [show 1 + a + j = 1 + (a + j) from by omega, HX.out.scn.buf (a + j) (by omega), ← hj]
        simp only [byteCells, List.getElem?_map]
        rw [List.getElem?_take, if_pos (by omega), List.getElem?_drop, List.getD_eq_getElem?_getD, show off + a + j = off + (a + j) from by omega, List.getElem?_eq_getElem (by rw [size_list]; omega)]
        rfl
      rintro e w1 ⟨rfl, hI, hbel, hkept⟩
      rw [← byteCells_append] at hI
      obtain ⟨-, v1, lr1, ⟨C1, hC1, g0, g1, g2, gr⟩, hown1, -⟩ := hI
      have hC1 : Row w1 B C1 103 := hC1
      have hscn1 := HX.out.scn.three g0 g1 g2 gr
      have hpk1 := (gr 1048 (by omega)).trans HX.out.pkc
      have f36 := hC1.cell hscn1.tpv
      have ffr := hC1.frozen
      have HF1 : Hid (Fr base B R W w1) := Lib.hid ((HF2.out.trans ((Fr.refl base B R W2).drewN 1)).trans (Fr.of_write hbel hkept))
      have HKp := Lib.hid hkept
      have HC1 := Lib.hid hC1
      have HS1 := Lib.hid hscn1
      have HP1 := Lib.hid hpk1
      have HO1 := Lib.hid hown1
      clear hC1 hscn1 hpk1 hown1 gr g0 g1 g2 hbel hkept hbuf e26 e36 hrow2 hslw
      go_wp2_with fail
      go_meet
      have hfr := HF1.out.setB (j := 1036) HX.out.hB (.int .i64 0)
      have hother : ∀ k, k ≠ B → (w1.setCell ⟨B, 1036, none⟩ (.int .i64 0)).heap[k]? = w1.heap[k]? := fun k hk => set_oth _ _ _ _ _ hk
      obtain ⟨pr, hpr⟩ := HX.out.rd
      refine ⟨hfr, HG.out.mono hfr.below hN, Nat.le_trans hbW hfr.below.size, ⟨pr, (hother R (fun e => HX.out.ne e.symm)).trans (HKp.out R _ hpr (fun e => HX.out.ne (Option.some.inj e).symm) (fun c f e => by injection e with _ e2; exact absurd e2 (by decide)))⟩, HX.out.oe, _, 0, v1, l ++ (s.data.toList.drop (off + a)).take (p - a), ⟨HX.out.hB, HX.out.hR, HX.out.ne, HC1.out.set 1036 _, HS1.out.setTp 0, (set_ne (by decide) _).trans HP1.out, ?_, ?_⟩, rfl, HT.out⟩
      · have h := own_far HO1.out HC1.out (by decide) hother
        rwa [byteCells_length] at h
      · rw [List.length_append, List.length_take]; omega
  case rest =>
    obtain ⟨hF, hG1, hb1, ⟨pr, hpr⟩, hoe, C1, tp1, tb1, l1, hL1, hcz⟩ := hcut
    clear d26 d27 d28 dch d30 d32 d36 d0 hfr
    obtain ⟨x30, c30⟩ := hL1.scn.col
    have d26 := hL1.row.cell hL1.scn.pos
    have d27 := hL1.row.cell hL1.scn.endp
    have d28 := hL1.row.cell hL1.scn.boff
    have dch := hL1.row.cell hL1.scn.sent
    have d30 := hL1.row.cell c30
    have d32 := hL1.row.cell hL1.scn.lcl
    have d36 := hL1.row.cell hL1.scn.tpv
    have d0 := hL1.row.cell hL1.scn.src
    have hfr := hL1.row.frozen
    have HL1 := Lib.hid hL1
    have HG1 := Lib.hid hG1
    have HF1 := Lib.hid hF
    have HR1 := Lib.hid hpr
    have HZ := Lib.hid hcz
    clear hL1 hG1 hF hpr hcz c30
    have hce : ∀ W, (Builtin.copy_ #[87, 87] 3 #[.slice (some ⟨B, 1, none⟩) 1025 1025, .slice (some ⟨B, 1 + p, none⟩) 0 (1025 - p)]).run Tryz.prog W = .ok (goInt 0) W := fun W => run_copy_none W 87 87 3 5 (some ⟨B, 1, none⟩) (some ⟨B, 1 + p, none⟩) 1025 1025 0 (1025 - p) Tryz.underlying87 info5 (by simp)
    have hs0 := fun wx => sliceAt86_lo B wx
    go_wp2_with fail
    refine wp_region_still_tail 16 (by kernel_rfl) (by kernel_rfl) ?_
    simp only [List.take_succ_cons, List.take_zero, List.drop_succ_cons, List.drop_zero]
    rw [show ({ heap := wc.heap, tape := wc.tape, drawn := wc.drawn + 1, os := wc.os, output := wc.output } : World) = wc.drew from rfl]
    repeat still_step
    refine wpStill_nil ?_
    go_wp2_with fail
    clear hce hs0 hsl
    have hL1 : LR base B R s (wc.drew) lc te ch pk ef C1 off p p tp1 tb1 l1 := HL1.out.drewN 1
    have hG1 : Gl (wc.drew) := ⟨HG1.out.first, HG1.out.eof⟩
    have hF1 : Fr base B R W (wc.drew) := HF1.out.drewN 1
    have hpr : Row (wc.drew) R #[.string s, .int .i64 (off + p : Nat), .int .i64 pr] 126 := HR1.out
    have hb1' : base ≤ (wc.drew).heap.size := hb1
    clear d26 d27 d28 dch d30 d32 d36 d0 hfr HL1 HG1 HF1 HR1 hb1
    generalize wc.drew = w2 at hL1 hG1 hF1 hpr hb1' ⊢
    obtain ⟨x30, c30⟩ := hL1.scn.col
    have d26 := hL1.row.cell hL1.scn.pos
    have d27 := hL1.row.cell hL1.scn.endp
    have d28 := hL1.row.cell hL1.scn.boff
    have dch := hL1.row.cell hL1.scn.sent
    have d30 := hL1.row.cell c30
    have d32 := hL1.row.cell hL1.scn.lcl
    have d36 := hL1.row.cell hL1.scn.tpv
    have d0 := hL1.row.cell hL1.scn.src
    have hfr := hL1.row.frozen
    have HL1 := Lib.hid hL1
    have HG1 := Lib.hid hG1
    have HF1 := Lib.hid hF1
    have HR1 := Lib.hid hpr
    have hb1 := hb1'
    clear hL1 hG1 hF1 hpr c30 hb1'
    refine wp_region_still_tail 11 (by kernel_rfl) (by kernel_rfl) ?_
    simp only [List.take_succ_cons, List.take_zero, List.drop_succ_cons, List.drop_zero]
    rw [show ({ heap := w2.heap, tape := w2.tape, drawn := w2.drawn + 1, os := w2.os, output := w2.output } : World) = w2.drew from rfl]
    repeat still_step
    refine wpStill_nil ?_
    go_wp2_with fail
    have hcast : (off : Int) + (p : Int) = ((off + p : Nat) : Int) := by omega
    rw [hcast]
    have hrow2 : Row (w2.setCell ⟨B, 1028, none⟩ (.int .i64 (off + p : Nat))).drew B (C1.setIfInBounds 1028 (.int .i64 (off + p : Nat))) 103 := Row.set (w := w2) HL1.out.row 1028 _
    have hoth2 : ∀ k, k ≠ B → (w2.setCell ⟨B, 1028, none⟩ (.int .i64 (off + p : Nat))).drew.heap[k]? = w2.heap[k]? := fun k hk => set_oth _ _ _ _ _ hk
    have hF2 : Fr base B R W (w2.setCell ⟨B, 1028, none⟩ (.int .i64 (off + p : Nat))).drew := (HF1.out.setB HL1.out.hB _).drewN 1
    have hG2 : Gl (w2.setCell ⟨B, 1028, none⟩ (.int .i64 (off + p : Nat))).drew := HG1.out.mono (((Below.refl base w2).setCell (p := ⟨B, 1028, none⟩) HL1.out.hB _).drew) hN
    have hR2 := (hoth2 R (fun e => HL1.out.ne e.symm)).trans HR1.out
    have hown2 := own_far HL1.out.own HL1.out.row (by decide) hoth2
    clear d26 d27 d28 dch d30 d32 d36 d0 hfr hcast hoth2
    generalize (w2.setCell ⟨B, 1028, none⟩ (.int .i64 (off + p : Nat))).drew = w3 at hrow2 hF2 hG2 hR2 hown2 ⊢
    have c26 := hrow2.cell ((set_ne (by decide) _).trans HL1.out.scn.pos)
    have c27 := hrow2.cell ((set_ne (by decide) _).trans HL1.out.scn.endp)
    have c0 := hrow2.cell ((set_ne (by decide) _).trans HL1.out.scn.src)
    have hfr3 := hrow2.frozen
    have HR2 := Lib.hid hR2
    have HW2 := Lib.hid hrow2
    have HF2 := Lib.hid hF2
    have HG2 := Lib.hid hG2
    have HO2 := Lib.hid hown2
    clear hrow2 hF2 hG2 hR2 hown2
    go_quiet (fail)
    go_wp2_with fail
    have hrow3 : Row (w3.drewN nq) B (C1.setIfInBounds 1028 (.int .i64 (off + p : Nat))) 103 := HW2.out
    have HF3 := Lib.hid (HF2.out.drewN nq)
    have hG3 : Gl (w3.drewN nq) := ⟨HG2.out.first, HG2.out.eof⟩
    have HR3 : Hid (Row (w3.drewN nq) R #[.string s, .int .i64 (off + p : Nat), .int .i64 pr] 126) := Lib.hid HR2.out
    have HO3 : Hid ((w3.drewN nq).ownsRow base 5 1 tb1 l1.length (byteCells l1)) := Lib.hid HO2.out
    have HG3 := Lib.hid hG3
    clear c26 c27 c0 hfr3 HW2 HF2 HG2 HR2 HO2 hG3
    generalize w3.drewN nq = w4 at hrow3 HF3 HG3 HR3 HO3 ⊢
    have c0 := hrow3.cell ((set_ne (by decide) _).trans HL1.out.scn.src)
    have hRd : Row w4.drew R #[.string s, .int .i64 (off + p : Nat), .int .i64 pr] 126 := HR3.out
    have hWd : Row w4.drew B (C1.setIfInBounds 1028 (.int .i64 (off + p : Nat))) 103 := hrow3
    have HFd := Lib.hid (HF3.out.drewN 1)
    have HFd0 := HF3
    have hGd : Gl w4.drew := ⟨HG3.out.first, HG3.out.eof⟩
    have hOd : w4.drew.ownsRow base 5 1 tb1 l1.length (byteCells l1) := HO3.out
    clear hrow3 HF3 HG3 HR3 HO3
    have hs1 := fun wx => hs1024 B wx
    have hnr' := nil_read' ⟨R, 0, none⟩
    have hmr' := method_read' ⟨R, 0, none⟩
    have c0d : w4.drew.cell? ⟨B, 0, none⟩ = some (.iface 116 (.pointer (some ⟨R, 0, none⟩))) := c0
    by_cases hend : s.size ≤ off + p
    · obtain ⟨ea, hea⟩ := hGd.eof
      have hread := read_eof s (off + p) pr R (.slice (some ⟨B, 1, none⟩) 1024 1025) _ _ hRd hend hea ⟨_, _, rfl⟩
      have HWd := Lib.hid hWd
      have HRd := Lib.hid hRd
      have HOd := Lib.hid hOd
      have HGd := Lib.hid hGd
      have HEnd := Lib.hid hend
      have HEa := Lib.hid hea
      clear hWd hRd hOd hGd hend hea
      go_region_held3 (fun wx => wx.cell? ⟨B, 0, none⟩ = some (.iface 116 (.pointer (some ⟨R, 0, none⟩)))) (first | exact c0d) (first | (go_simp; go_at_call 177; refine hread.mono ?_; rintro e w6 ⟨rfl, n6, rfl⟩))
      have hlay : lay (C1.setIfInBounds 1028 (.int .i64 (off + p : Nat))) 1 (byteCells ((s.data.toList.drop (off + p)).take 0)) = C1.setIfInBounds 1028 (.int .i64 (off + p : Nat)) := by
        apply Array.ext'
        unfold lay
        simp only [List.take_zero, byteCells, List.map_nil, List.append_nil, List.length_nil, Nat.add_zero, List.take_append_drop]
      have hscn := refill_scn HL1.out.scn 0 (off + p) (by decide) (by rw [size_list]; have := HL1.out.scn; omega)
      rw [hlay] at hscn
      have HSC := Lib.hid hscn
      clear hscn hlay
      have hrow6 : Row (w4.drewN (1 + n6)) B (C1.setIfInBounds 1028 (.int .i64 (off + p : Nat))) 103 := HWd.out
      have HR6 : Hid (Row (w4.drewN (1 + n6)) R #[.string s, .int .i64 (off + p : Nat), .int .i64 pr] 126) := Lib.hid HRd.out
      have HF6 := Lib.hid (HFd0.out.drewN (1 + n6))
      have HG6 : Hid (Gl (w4.drewN (1 + n6))) := Lib.hid ⟨HGd.out.first, HGd.out.eof⟩
      have HO6 : Hid ((w4.drewN (1 + n6)).ownsRow base 5 1 tb1 l1.length (byteCells l1)) := Lib.hid HOd.out
      have hea6 : (w4.drewN (1 + n6)).cell? ⟨2, 0, none⟩ = some (.iface 199 (.pointer (some ea))) := HEa.out
      clear HWd HRd HFd HFd0 HGd HOd HEa c0d c0 hs1 hnr hmr hnr' hmr' hread
      generalize w4.drewN (1 + n6) = w6 at hrow6 HR6 HF6 HG6 HO6 hea6 ⊢
      have hsz1 : (C1.setIfInBounds 1028 (.int .i64 (off + p : Nat))).size = 1049 := by rw [Array.size_setIfInBounds]; exact HL1.out.scn.size
      obtain ⟨v1, hv1⟩ := at_some (C := C1.setIfInBounds 1028 (.int .i64 (off + p : Nat))) (k := 1) (by rw [hsz1]; omega)
      obtain ⟨x30, hx30⟩ := HL1.out.scn.col
      have hx30' := (set_ne (i := 1028) (by decide) (.int .i64 (off + p : Nat))).trans hx30
      have g1 := hrow6.cell hv1
      have g26 := hrow6.cell ((set_ne (by decide) _).trans HL1.out.scn.pos)
      have g27 := hrow6.cell ((set_ne (by decide) _).trans HL1.out.scn.endp)
      have g30 := hrow6.cell hx30'
      have g32 := hrow6.cell ((set_ne (by decide) _).trans HL1.out.scn.lcl)
      have gf := hrow6.frozen
      have hne := neq_err ea
      have HW6 := Lib.hid hrow6
      clear hx30 hv1 hsz1 hrow6 hx30'
      go_wp2_with fail
      have hrow7 : Row ((w6.setCell ⟨B, 1026, none⟩ (.int .i64 0)).setCell ⟨B, 1027, none⟩ (.int .i64 0)) B (((C1.setIfInBounds 1028 (.int .i64 (off + p : Nat))).setIfInBounds 1026 (.int .i64 0)).setIfInBounds 1027 (.int .i64 (0 : Nat))) 103 := (HW6.out.set 1026 _).set 1027 _
      have hoth7 : ∀ k, k ≠ B → ((w6.setCell ⟨B, 1026, none⟩ (.int .i64 0)).setCell ⟨B, 1027, none⟩ (.int .i64 0)).heap[k]? = w6.heap[k]? := fun k hk => (set_oth _ _ _ _ _ hk).trans (set_oth _ _ _ _ _ hk)
      have HF7 := Lib.hid ((HF6.out.setB (j := 1026) HL1.out.hB (.int .i64 0)).setB (j := 1027) HL1.out.hB (.int .i64 0))
      have hea7 : ((w6.setCell ⟨B, 1026, none⟩ (.int .i64 0)).setCell ⟨B, 1027, none⟩ (.int .i64 0)).cell? ⟨2, 0, none⟩ = some (.iface 199 (.pointer (some ea))) := by
        rw [World.cell?_setCell_far _ _ _ _ (by have := HL1.out.hB; show B ≠ 2; omega), World.cell?_setCell_far _ _ _ _ (by have := HL1.out.hB; show B ≠ 2; omega)]
        exact hea6
      have HR7 := Lib.hid ((hoth7 R (fun e => HL1.out.ne e.symm)).trans HR6.out)
      have HO7 := Lib.hid (own_far HO6.out HW6.out (by decide) hoth7)
      clear g1 g26 g27 g30 g32 gf HF6 HG6 HO6 hea6 HR6 HW6 hoth7
      generalize (w6.setCell ⟨B, 1026, none⟩ (.int .i64 0)).setCell ⟨B, 1027, none⟩ (.int .i64 0) = w7 at hrow7 HF7 hea7 HR7 HO7 ⊢
      obtain ⟨x30, hx30⟩ := HL1.out.scn.col
      have hsz7 : (((C1.setIfInBounds 1028 (.int .i64 (off + p : Nat))).setIfInBounds 1026 (.int .i64 0)).setIfInBounds 1027 (.int .i64 (0 : Nat))).size = 1049 := by simp only [Array.size_setIfInBounds]; exact HL1.out.scn.size
      obtain ⟨v1, hv1⟩ := at_some (C := ((C1.setIfInBounds 1028 (.int .i64 (off + p : Nat))).setIfInBounds 1026 (.int .i64 0)).setIfInBounds 1027 (.int .i64 (0 : Nat))) (k := 1) (by rw [hsz7]; omega)
      have g1 := hrow7.cell hv1
      have g27 : w7.cell? ⟨B, 1027, none⟩ = some (.int .i64 0) := hrow7.cell (set_eq (by simp only [Array.size_setIfInBounds]; rw [HL1.out.scn.size]; decide) _)
      have g30 := hrow7.cell ((set_ne (by decide) _).trans ((set_ne (by decide) _).trans ((set_ne (i := 1028) (by decide) _).trans hx30)))
      have g32 := hrow7.cell ((set_ne (by decide) _).trans ((set_ne (by decide) _).trans ((set_ne (i := 1028) (by decide) _).trans HL1.out.scn.lcl)))
      have gf := hrow7.frozen
      have hne := neq_err ea
      have HW7 := Lib.hid hrow7
      clear hx30 hv1 hsz7 hrow7
      refine wp_region_still_tail 8 (by kernel_rfl) (by kernel_rfl) ?_
      simp only [List.take_succ_cons, List.take_zero, List.drop_succ_cons, List.drop_zero]
      rw [show ({ heap := w7.heap, tape := w7.tape, drawn := w7.drawn + 1, os := w7.os, output := w7.output } : World) = w7.drew from rfl]
      repeat still_step
      refine wpStill_nil ?_
      go_wp2_with fail
      · go_ret
        have hm := fun y : Int => eof_close (w8 := (((w7.setCell ⟨B, 1, none⟩ (.int .u8 128)).setCell ⟨B, 1030, none⟩ (.int .i64 y)).setCell ⟨B, 1032, none⟩ (.int .i64 0)).drew) (W := w) HL1.out HZ.out H.out.q HEnd.out H.out.oe HR7.out HO7.out HW7.out (fun k hk => (set_oth _ _ _ _ _ hk).trans ((set_oth _ _ _ _ _ hk).trans (set_oth _ _ _ _ _ hk))) (((HW7.out.set 1 _).set 1030 _).set 1032 _) ((HSC.out.setCol y).setLcl 0) (by
          repeat (refine (set_ne (by decide) _).trans ?_)
          exact HL1.out.pkc) (HFr.out.trans ((((HF7.out.setB HL1.out.hB _).setB HL1.out.hB _).setB HL1.out.hB _).drewN 1))
        exact hm _
      · go_ret
        exact eof_close (w8 := ((w7.setCell ⟨B, 1, none⟩ (.int .u8 128)).setCell ⟨B, 1032, none⟩ (.int .i64 0)).drew) (W := w) HL1.out HZ.out H.out.q HEnd.out H.out.oe HR7.out HO7.out HW7.out (fun k hk => (set_oth _ _ _ _ _ hk).trans (set_oth _ _ _ _ _ hk)) ((HW7.out.set 1 _).set 1032 _) (HSC.out.setLcl 0) (by
          repeat (refine (set_ne (by decide) _).trans ?_)
          exact HL1.out.pkc) (HFr.out.trans (((HF7.out.setB HL1.out.hB _).setB HL1.out.hB _).drewN 1))
    · obtain ⟨n, hn⟩ : ∃ n, Nat.min (s.size - (off + p)) 1024 = n := ⟨_, rfl⟩
      have hn0 : 0 < n := by rw [← hn]; exact Nat.lt_min.2 ⟨by omega, by decide⟩
      have hn1 : n ≤ 1024 := by rw [← hn]; exact Nat.min_le_right _ _
      have hn2 : off + p + n ≤ s.size := by have : n ≤ s.size - (off + p) := by rw [← hn]; exact Nat.min_le_left _ _
                                            omega
      have hsz : (C1.setIfInBounds 1028 (.int .i64 (off + p : Nat))).size = 1049 := by rw [Array.size_setIfInBounds]; exact HL1.out.scn.size
      have hread := read_some s (off + p) pr R B 1 1024 1025 n 103 _ w4.drew hRd hWd HL1.out.ne (by omega) (by omega) hn (by rw [hsz]; decide)
      have hll : (byteCells ((s.data.toList.drop (off + p)).take n)).length = n := by rw [byteCells_length, List.length_take, List.length_drop, size_list]; omega
      have hkb : ∀ wx : World, Row wx B (lay (C1.setIfInBounds 1028 (.int .i64 (off + p : Nat))) 1 (byteCells ((s.data.toList.drop (off + p)).take n))) 103 → wx.cell? ⟨B, 0, none⟩ = some (.iface 116 (.pointer (some ⟨R, 0, none⟩))) := fun wx h =>
        h.cell ((lay_get _ 1 _ (by rw [hll, hsz]; omega) 0).trans (by rw [if_neg (by omega)]; exact (set_ne (by decide) _).trans HL1.out.scn.src))
      have HWd := Lib.hid hWd
      have HRd := Lib.hid hRd
      have HOd := Lib.hid hOd
      have HGd := Lib.hid hGd
      have HEnd := Lib.hid hend
      have HLL := Lib.hid hll
      have HSZ := Lib.hid hsz
      clear hWd hRd hOd hGd hend hn hll hsz
      go_region_held3 (fun wx => wx.cell? ⟨B, 0, none⟩ = some (.iface 116 (.pointer (some ⟨R, 0, none⟩)))) (first | exact c0d | exact hkb _ hB6) (first | (go_simp; go_at_call 177; refine hread.mono ?_; rintro e w6 ⟨rfl, hR6, hB6, hM6⟩))
      have hscn := refill_scn HL1.out.scn n (off + p) hn1 (by rw [size_list]; omega)
      have HSC := Lib.hid hscn
      clear hscn
      generalize hDD : lay (C1.setIfInBounds 1028 (.int .i64 (off + p : Nat))) 1 (byteCells ((s.data.toList.drop (off + p)).take n)) = D6 at *
      have hD6 : D6.size = 1049 := by rw [← hDD, lay_size _ 1 _ (by rw [HLL.out, HSZ.out]; omega), HSZ.out]
      have hpk6 : D6[1048]? = some (.string pk) := by rw [← hDD]; exact (lay_get _ 1 _ (by rw [HLL.out, HSZ.out]; omega) 1048).trans (by rw [if_neg (by rw [HLL.out]; omega)]; exact (set_ne (by decide) _).trans HL1.out.pkc)
      have HP6 := Lib.hid hpk6
      have HF6 : Hid (Fr base B R W w6) := Lib.hid (HFd.out.trans (Fr.of_mod hM6 (fun _ h => h) HL1.out.hB HL1.out.hR (Nat.le_trans hbW HFd.out.below.size)))
      obtain ⟨v26, hv26⟩ := at_some (C := D6) (k := 1026) (by rw [hD6]; omega)
      obtain ⟨v27, hv27⟩ := at_some (C := D6) (k := 1027) (by rw [hD6]; omega)
      have g26 := hB6.cell hv26
      have g27 := hB6.cell hv27
      have gf := hB6.frozen
      have hown6 : w6.ownsRow base 5 1 tb1 l1.length (byteCells l1) := by
        obtain ⟨h1, h2⟩ := HOd.out
        refine ⟨h1, ?_⟩
        rcases h2 with h2 | ⟨g, cap, cur, hv, hg, hh, r⟩
        · exact .inl h2
        · refine .inr ⟨g, cap, cur, hv, hg, hM6.keep hh ?_, r⟩
          rintro (rfl | rfl)
          · have e := hh.symm.trans HRd.out
            injection e with e
            injection e with _ e2
            exact absurd e2 (by decide)
          · have e := hh.symm.trans HWd.out
            injection e with e
            injection e with _ e2
            exact absurd e2 (by decide)
      have HO6 := Lib.hid hown6
      have HR6 := Lib.hid hR6
      have HW6 := Lib.hid hB6
      have HG6 : Hid (Gl w6) := Lib.hid (HG.out.mono HF6.out.below hN)
      have HD6 := Lib.hid hD6
      have HDD := Lib.hid hDD
      clear hown6 hR6 hB6 hD6 hDD hM6 hpk6 hv26 hv27 HWd HRd HOd HGd HFd HFd0 c0d c0 hs1 hnr hmr hnr' hmr' hread hkb
      go_wp2_with fail
      have hrow7 : Row ((w6.setCell ⟨B, 1026, none⟩ (.int .i64 0)).setCell ⟨B, 1027, none⟩ (.int .i64 (n : Nat))) B ((D6.setIfInBounds 1026 (.int .i64 0)).setIfInBounds 1027 (.int .i64 (n : Nat))) 103 := (HW6.out.set 1026 _).set 1027 _
      have hoth7 : ∀ k, k ≠ B → ((w6.setCell ⟨B, 1026, none⟩ (.int .i64 0)).setCell ⟨B, 1027, none⟩ (.int .i64 (n : Nat))).heap[k]? = w6.heap[k]? := fun k hk => (set_oth _ _ _ _ _ hk).trans (set_oth _ _ _ _ _ hk)
      have HF7 := Lib.hid ((HF6.out.setB (j := 1026) HL1.out.hB (.int .i64 0)).setB (j := 1027) HL1.out.hB (.int .i64 (n : Nat)))
      have HR7 := Lib.hid ((hoth7 R (fun e => HL1.out.ne e.symm)).trans HR6.out)
      have HO7 := Lib.hid (own_far HO6.out HW6.out (by decide) hoth7)
      clear g26 g27 gf HF6 HG6 HO6 HR6 HW6 hoth7
      generalize (w6.setCell ⟨B, 1026, none⟩ (.int .i64 0)).setCell ⟨B, 1027, none⟩ (.int .i64 (n : Nat)) = w7 at hrow7 HF7 HR7 HO7 ⊢
      have hsz7 : ((D6.setIfInBounds 1026 (.int .i64 0)).setIfInBounds 1027 (.int .i64 (n : Nat))).size = 1049 := by simp only [Array.size_setIfInBounds]; exact HD6.out
      obtain ⟨v1, hv1⟩ := at_some (C := (D6.setIfInBounds 1026 (.int .i64 0)).setIfInBounds 1027 (.int .i64 (n : Nat))) (k := 1 + n) (by rw [hsz7]; omega)
      have g1 := hrow7.cell hv1
      have g27 : w7.cell? ⟨B, 1027, none⟩ = some (.int .i64 (n : Nat)) := hrow7.cell (set_eq (by simp only [Array.size_setIfInBounds]; rw [HD6.out]; decide) _)
      have gf := hrow7.frozen
      have HW7 := Lib.hid hrow7
      clear hv1 hsz7 hrow7
      have hnb : (n : Int) < 1025 := by omega
      refine wp_region_still_tail 8 (by kernel_rfl) (by kernel_rfl) ?_
      simp only [List.take_succ_cons, List.take_zero, List.drop_succ_cons, List.drop_zero]
      rw [show ({ heap := w7.heap, tape := w7.tape, drawn := w7.drawn + 1, os := w7.os, output := w7.output } : World) = w7.drew from rfl]
      repeat still_step
      refine wpStill_nil ?_
      go_wp2_with fail
      have hX8 : LX base B R s (w7.setCell ⟨B, 1 + n, none⟩ (.int .u8 128)).drew q lc col te ch pk ef (((D6.setIfInBounds 1026 (.int .i64 0)).setIfInBounds 1027 (.int .i64 (n : Nat))).setIfInBounds (1 + n) (.int .u8 128)) (off + p) 0 n tp1 tb1 l1 := by
        have hk : ∀ k, k ≠ B → (w7.setCell ⟨B, 1 + n, none⟩ (.int .u8 128)).drew.heap[k]? = w7.heap[k]? := fun k hk => set_oth _ _ _ _ _ hk
        exact ⟨HL1.out.hB, HL1.out.hR, HL1.out.ne, HW7.out.set _ _, HSC.out, (by
          refine (set_ne (by omega) _).trans ?_
          repeat (refine (set_ne (by decide) _).trans ?_)
          exact HP6.out), ⟨-1, (hk R (fun e => HL1.out.ne e.symm)).trans HR7.out⟩, own_far HO7.out HW7.out (by decide) hk, Nat.zero_le _, hn2, H.out.q, HL1.out.ll, colz_of HZ.out HL1.out.ll⟩
      have HF8 := Lib.hid ((HF7.out.setB (j := 1 + n) HL1.out.hB (.int .u8 128)).drewN 1)
      have hF8 : Fr base B R W (w7.setCell ⟨B, 1 + n, none⟩ (.int .u8 128)).drew := HF8.out
      clear HF8 g1 g27 gf HW7 HR7 HO7 HF7 HSC HP6 HD6 HDD
      generalize (w7.setCell ⟨B, 1 + n, none⟩ (.int .u8 128)).drew = w8 at hX8 hF8 ⊢
      have HF8 := Lib.hid hF8
      have HX8 := Lib.hid hX8
      have HG8 := Lib.hid (HG.out.mono hF8.below hN)
      have hq8 : q < s.size := by have := H.out.q; omega
      have hL8 : s.data.toList[off + p + 0]? = some (s[q]'hq8) := by
        rw [Nat.add_zero, show off + p = q from H.out.q.symm, List.getElem?_eq_getElem (by rw [size_list]; exact hq8)]; rfl
      have HL8 := Lib.hid hL8
      obtain ⟨x30, c30⟩ := hX8.scn.col
      have d26 : w8.cell? ⟨B, 1026, none⟩ = some (.int .i64 0) := hX8.row.cell hX8.scn.pos
      have d27 := hX8.row.cell hX8.scn.endp
      have d1 : w8.cell? ⟨B, 1, none⟩ = some (.int .u8 (s[q]'hq8).toNat) := by
        have h := hX8.row.cell (hX8.scn.buf 0 hn0)
        rwa [List.getD_eq_getElem?_getD, hL8] at h
      have d30 := hX8.row.cell c30
      have d32 := hX8.row.cell hX8.scn.lcl
      have hfr := hX8.row.frozen
      obtain ⟨ha1, ha2⟩ := HA.out q hq8
      have hsl : ∀ wx, (Instr.sliceAt 86 (.pointer (some ⟨B, 1, none⟩)) (some (.int .i64 0)) (some (.int .i64 (n : Int))) none).run Tryz.prog wx = .ok (.slice (some ⟨B, 1, none⟩) n 1025) wx := fun wx => sliceAt86 B 0 n (Nat.zero_le _) hn1 wx
      clear hX8 hF8 hL8 c30
      rw [rounds_succ]
      have hw0 : IntKind.i64.wrap 4 = 4 := by decide
      by_cases h4 : n < 4
      · have hg : decide ((n : Int) < 4) = true := decide_eq_true (by omega)
        go_wp2_with fail
        have hfull : ∀ k, Calls Tryz.prog 82 #[.slice (some ⟨B, 1, none⟩) n 1025] (w8.drewN k) (fun e w' => e = .returned (.bool true) ∧ w' = w8.drewN k) := fun k =>
          (fullRune_same B 1 n 1025 (s[q]'hq8).toNat (w8.drewN k) hn0 (by omega) (by omega) d1 (HG8.out.first _ (by omega))).mono fun _ _ h => ⟨h.1, h.2.symm⟩
        go_quiet ((go_at_call 82; exact Calls.quiet_of_same (hfull _)))
        clear hg hsl hfull hw0
        have HX8' := Lib.hid (HX8.out.drewN nq)
        have HF8' := Lib.hid (HF8.out.drewN nq)
        have hd26 : (w8.drewN nq).cell? ⟨B, 1026, none⟩ = some (.int .i64 0) := d26
        have hd1 : (w8.drewN nq).cell? ⟨B, 1, none⟩ = some (.int .u8 (s[q]'hq8).toNat) := d1
        have hd30 : (w8.drewN nq).cell? ⟨B, 1030, none⟩ = some (.int .i64 x30) := d30
        have hd32 : (w8.drewN nq).cell? ⟨B, 1032, none⟩ = some (.int .i64 lc) := d32
        have hdf : ∀ j, (w8.drewN nq).frozen? ⟨B, j, none⟩ = false := hfr
        clear d26 d27 d1 d30 d32 hfr HX8 HF8 HG8
        generalize w8.drewN nq = w8 at HX8' HF8' hd26 hd1 hd30 hd32 hdf ⊢
        have HX8 := HX8'
        have HF8 := HF8'
        clear HX8' HF8'
        obtain ⟨x29, c29⟩ := HX8.out.scn.line
        obtain ⟨x31, c31⟩ := HX8.out.scn.lll
        have d29 := HX8.out.row.cell c29
        have d31 := HX8.out.row.cell c31
        clear c29 c31
        by_cases hnl : s[q]'hq8 = 10
        · have hc := i_eq hnl rfl
          have HN := Lib.hid hnl
          clear hnl
          go_wp2_with fail
          go_quiet (fail)
          go_wp2
          go_ret
          refine ⟨HFr.out.trans (((((((HF8.out.drewN nq).setB HL1.out.hB _).setB HL1.out.hB _).setB HL1.out.hB _).setB HL1.out.hB _).setB HL1.out.hB _).setB HL1.out.hB _), .inl ⟨hq8, by rw [HN.out]; rfl, ?_⟩⟩
          have hm := fun y1 y2 y3 y4 : Int => HX8.out.move (p' := 1) (fun k hk => by simp only [set_oth _ _ _ _ _ hk]; rfl) ((((((Row.set (w := w8.drewN nq) HX8.out.row 1026 (.int .i64 1)).set 1032 (.int .i64 1)).set 1030 (.int .i64 y1)).set 1029 (.int .i64 y2)).set 1031 (.int .i64 y3)).set 1030 (.int .i64 y4)) ((((((HX8.out.scn.setPos 1).setLcl 1).setCol y1).setLine y2).setLll y3).setCol y4) (by
            repeat (refine (set_ne (by decide) _).trans ?_)
            exact HX8.out.pkc) hn0 (Nat.zero_le _) (HX8.out.col.step HL8.out) ⟨by decide, by have := HX8.out.col.tp_le; omega⟩
          rw [show off + p + 1 = q + 1 from by have := H.out.q; omega] at hm
          exact hm _ _ _ _
        · have hc : ((s[q].toNat : Int) == 10) = false := f_eq hnl rfl
          clear hnl
          go_wp2_with fail
          go_quiet (fail)
          go_wp2
          go_ret
          refine ⟨HFr.out.trans ((((HF8.out.drewN nq).setB HL1.out.hB _).setB HL1.out.hB _).setB HL1.out.hB _), .inl ⟨hq8, rfl, ?_⟩⟩
          have hm := fun y1 : Int => HX8.out.move (p' := 1) (fun k hk => by simp only [set_oth _ _ _ _ _ hk]; rfl) (((Row.set (w := w8.drewN nq) HX8.out.row 1026 (.int .i64 1)).set 1032 (.int .i64 1)).set 1030 (.int .i64 y1)) (((HX8.out.scn.setPos 1).setLcl 1).setCol y1) (by
            repeat (refine (set_ne (by decide) _).trans ?_)
            exact HX8.out.pkc) hn0 (Nat.zero_le _) (HX8.out.col.step HL8.out) ⟨by decide, by have := HX8.out.col.tp_le; omega⟩
          rw [show off + p + 1 = q + 1 from by have := H.out.q; omega] at hm
          exact hm _
      · have hg : decide ((n : Int) < 4) = false := decide_eq_false (by omega)
        go_wp2_with fail
        go_quiet (fail)
        clear hg hsl hw0
        have HX8' := Lib.hid (HX8.out.drewN nq)
        have HF8' := Lib.hid (HF8.out.drewN nq)
        have hd26 : (w8.drewN nq).cell? ⟨B, 1026, none⟩ = some (.int .i64 0) := d26
        have hd1 : (w8.drewN nq).cell? ⟨B, 1, none⟩ = some (.int .u8 (s[q]'hq8).toNat) := d1
        have hd30 : (w8.drewN nq).cell? ⟨B, 1030, none⟩ = some (.int .i64 x30) := d30
        have hd32 : (w8.drewN nq).cell? ⟨B, 1032, none⟩ = some (.int .i64 lc) := d32
        have hdf : ∀ j, (w8.drewN nq).frozen? ⟨B, j, none⟩ = false := hfr
        clear d26 d27 d1 d30 d32 hfr HX8 HF8 HG8
        generalize w8.drewN nq = w8 at HX8' HF8' hd26 hd1 hd30 hd32 hdf ⊢
        have HX8 := HX8'
        have HF8 := HF8'
        clear HX8' HF8'
        obtain ⟨x29, c29⟩ := HX8.out.scn.line
        obtain ⟨x31, c31⟩ := HX8.out.scn.lll
        have d29 := HX8.out.row.cell c29
        have d31 := HX8.out.row.cell c31
        clear c29 c31
        by_cases hnl : s[q]'hq8 = 10
        · have hc := i_eq hnl rfl
          have HN := Lib.hid hnl
          clear hnl
          go_wp2_with fail
          go_quiet (fail)
          go_wp2
          go_ret
          refine ⟨HFr.out.trans (((((((HF8.out.drewN nq).setB HL1.out.hB _).setB HL1.out.hB _).setB HL1.out.hB _).setB HL1.out.hB _).setB HL1.out.hB _).setB HL1.out.hB _), .inl ⟨hq8, by rw [HN.out]; rfl, ?_⟩⟩
          have hm := fun y1 y2 y3 y4 : Int => HX8.out.move (p' := 1) (fun k hk => by simp only [set_oth _ _ _ _ _ hk]; rfl) ((((((Row.set (w := w8.drewN nq) HX8.out.row 1026 (.int .i64 1)).set 1032 (.int .i64 1)).set 1030 (.int .i64 y1)).set 1029 (.int .i64 y2)).set 1031 (.int .i64 y3)).set 1030 (.int .i64 y4)) ((((((HX8.out.scn.setPos 1).setLcl 1).setCol y1).setLine y2).setLll y3).setCol y4) (by
            repeat (refine (set_ne (by decide) _).trans ?_)
            exact HX8.out.pkc) hn0 (Nat.zero_le _) (HX8.out.col.step HL8.out) ⟨by decide, by have := HX8.out.col.tp_le; omega⟩
          rw [show off + p + 1 = q + 1 from by have := H.out.q; omega] at hm
          exact hm _ _ _ _
        · have hc : ((s[q].toNat : Int) == 10) = false := f_eq hnl rfl
          clear hnl
          go_wp2_with fail
          go_quiet (fail)
          go_wp2
          go_ret
          refine ⟨HFr.out.trans ((((HF8.out.drewN nq).setB HL1.out.hB _).setB HL1.out.hB _).setB HL1.out.hB _), .inl ⟨hq8, rfl, ?_⟩⟩
          have hm := fun y1 : Int => HX8.out.move (p' := 1) (fun k hk => by simp only [set_oth _ _ _ _ _ hk]; rfl) (((Row.set (w := w8.drewN nq) HX8.out.row 1026 (.int .i64 1)).set 1032 (.int .i64 1)).set 1030 (.int .i64 y1)) (((HX8.out.scn.setPos 1).setLcl 1).setCol y1) (by
            repeat (refine (set_ne (by decide) _).trans ?_)
            exact HX8.out.pkc) hn0 (Nat.zero_le _) (HX8.out.col.step HL8.out) ⟨by decide, by have := HX8.out.col.tp_le; omega⟩
          rw [show off + p + 1 = q + 1 from by have := H.out.q; omega] at hm
          exact hm _
theorem next_any {base B R : Nat} {s : ByteArray} {w : World} {q : Nat} {lc : Int} {col : Option (List UInt8)} {te ch : Int} {pk : ByteArray} {ef : Value}
    (h : Lx base B R s w q lc col te ch pk ef) (hasc : ∀ i (h : i < s.size), 9 ≤ (s[i].toNat : Int) ∧ (s[i].toNat : Int) < 128) (hs : s.size ≤ 2000) (hb : base ≤ w.heap.size) (hN : 24 ≤ base) (hG : Gl w) :
    Calls Tryz.prog 66 #[.pointer (some ⟨B, 0, none⟩)] w (NextPost base B R s q col te ch pk ef w) := by
  obtain ⟨C, off, p, e, tp, tb, l, h, -⟩ := h
  rcases Nat.lt_or_eq_of_le h.pe with hp | hp
  · exact next_fast h hp hasc
  · subst hp
    exact next_slow h hasc hs hb hN hG
end Go.Proofs.YtadpeebcombjnaaGreatDoor
