/- Small words on memory: which blocks a call may have written ('Mod'), rows of cells that are known whole, allocation and building of large structs. -/
import Derived.Test.YtadpeebcombjnaaGreatDoorProg
import Derived.WalkKit
import Derived.WalkLawsBesides
import Derived.KernelRfl
import Derived.Laws.Rows
import Derived.Laws.Tables
import Derived.Deep.QuietTactic
import Derived.BigQuiet
import Derived.StillTailTactics
import Derived.Laws.EntriesVeiled
import Derived.Lib.Hide
import Derived.Deep.DeepMust
import Derived.Outline
import Derived.Laws.CopyOwn
namespace Go.Proofs.YtadpeebcombjnaaGreatDoor
open Go Go.Proofs Go.RowKit
set_option maxRecDepth 100000

/-- Of the blocks that were there, those that S does not name are as they were. -/
structure Mod (S : Nat → Prop) (w w' : World) : Prop where
  os : w'.os = w.os
  tape : w'.tape = w.tape
  output : w'.output = w.output
  size : w.heap.size ≤ w'.heap.size
  block : ∀ k, k < w.heap.size → ¬ S k → w'.heap[k]? = w.heap[k]?
theorem Mod.refl (S : Nat → Prop) (w : World) : Mod S w w := ⟨rfl, rfl, rfl, Nat.le_refl _, fun _ _ _ => rfl⟩
theorem Mod.trans {S T : Nat → Prop} {a b c : World} (h : Mod S a b) (k : Mod T b c) (hT : ∀ i, i < a.heap.size → T i → S i) : Mod S a c :=
  ⟨k.os.trans h.os, k.tape.trans h.tape, k.output.trans h.output, Nat.le_trans h.size k.size,
   fun i hi hs => (k.block i (Nat.lt_of_lt_of_le hi h.size) (fun ht => hs (hT i hi ht))).trans (h.block i hi hs)⟩
theorem Mod.mono {S T : Nat → Prop} {a b : World} (h : Mod S a b) (hT : ∀ i, i < a.heap.size → S i → T i) : Mod T a b :=
  ⟨h.os, h.tape, h.output, h.size, fun i hi ht => h.block i hi (fun hs => ht (hT i hi hs))⟩
theorem Mod.drewN {S : Nat → Prop} {a b : World} (h : Mod S a b) (n : Nat) : Mod S a (b.drewN n) := ⟨h.os, h.tape, h.output, h.size, h.block⟩
theorem Mod.drew {S : Nat → Prop} {a b : World} (h : Mod S a b) : Mod S a b.drew := ⟨h.os, h.tape, h.output, h.size, h.block⟩
theorem Mod.alloc {S : Nat → Prop} {a b : World} (h : Mod S a b) (o : Obj) : Mod S a (b.alloc o) :=
  ⟨h.os, h.tape, h.output, Nat.le_trans h.size (by simp), fun i hi hs => (Below.heap_alloc b o i (Nat.lt_of_lt_of_le hi h.size)).trans (h.block i hi hs)⟩
theorem Mod.setCell {S : Nat → Prop} {a b : World} (h : Mod S a b) {p : Addr} (hp : p.block < a.heap.size → S p.block) (v : Value) : Mod S a (b.setCell p v) :=
  ⟨h.os, h.tape, h.output, by simpa [World.setCell] using h.size, fun i hi hs => (heap_setCell_other b p i v (fun e => hs (e ▸ hp (e ▸ hi)))).trans (h.block i hi hs)⟩
theorem Mod.setRow {S : Nat → Prop} {a b : World} (h : Mod S a b) {g : Nat} (hg : g < a.heap.size → S g) (cs : Array Value) : Mod S a (b.setRow g cs) :=
  ⟨h.os, h.tape, h.output, by simpa [World.setRow] using h.size, fun i hi hs => (setRow_other b g i cs (fun e => hs (e ▸ hg (e ▸ hi)))).trans (h.block i hi hs)⟩
theorem Mod.grown {S : Nat → Prop} {a b c : World} {row : Option Nat} (h : Mod S a b) (hg : b.grownBy c row) (hr : ∀ k, k < a.heap.size → row = some k → S k) : Mod S a c :=
  ⟨hg.os.trans h.os, hg.tape.trans h.tape, hg.output.trans h.output, Nat.le_trans h.size hg.size,
   fun i hi hs => (hg.block i (Nat.lt_of_lt_of_le hi h.size) (fun e => hs (hr i hi e.symm))).trans (h.block i hi hs)⟩
theorem Mod.of_below {w w' : World} (h : Below w.heap.size w w') (S : Nat → Prop) : Mod S w w' := ⟨h.os, h.tape, h.output, h.size, fun k hk _ => h.block k hk⟩
theorem Mod.below {S : Nat → Prop} {w w' : World} (h : Mod S w w') (hS : ∀ k, k < w.heap.size → ¬ S k) : Below w.heap.size w w' := ⟨h.os, h.tape, h.output, h.size, fun k hk => h.block k hk (hS k hk)⟩
theorem Mod.below_of {S : Nat → Prop} {w w' : World} (h : Mod S w w') {N : Nat} (hN : N ≤ w.heap.size) (hS : ∀ k, k < N → ¬ S k) : Below N w w' := ⟨h.os, h.tape, h.output, h.size, fun k hk => h.block k (by omega) (hS k hk)⟩
theorem Mod.keep {S : Nat → Prop} {w w' : World} {k : Nat} {o : Obj} (h : Mod S w w') (hk : w.heap[k]? = some o) (hs : ¬ S k) : w'.heap[k]? = some o := by
  rw [h.block k (by have := Array.getElem?_eq_some_iff.1 hk; exact this.1) hs, hk]
theorem lt_of_row {w : World} {k : Nat} {o : Obj} (hk : w.heap[k]? = some o) : k < w.heap.size := by have := Array.getElem?_eq_some_iff.1 hk; exact this.1

/-- A row of cells that is known whole. -/
abbrev Row (w : World) (g : Nat) (C : Array Value) (t : TypeId) : Prop := w.heap[g]? = some (.cells C t (0, 0))
theorem Row.cell {w : World} {g : Nat} {C : Array Value} {t : TypeId} (h : Row w g C t) {j : Nat} {v : Value} (hj : C[j]? = some v) : w.cell? ⟨g, j, none⟩ = some v := (cell_of_row w g j C t _ h).trans hj
theorem Row.frozen {w : World} {g : Nat} {C : Array Value} {t : TypeId} (h : Row w g C t) (j : Nat) : w.frozen? ⟨g, j, none⟩ = false := frozen_of_row w g j C t h
theorem Row.set {w : World} {g : Nat} {C : Array Value} {t : TypeId} (h : Row w g C t) (j : Nat) (v : Value) : Row (w.setCell ⟨g, j, none⟩ v) g (C.setIfInBounds j v) t := heap_setCell_same w g j C t v h
theorem Row.far {w : World} {g : Nat} {C : Array Value} {t : TypeId} (h : Row w g C t) {p : Addr} (hp : g ≠ p.block) (v : Value) : Row (w.setCell p v) g C t := (heap_setCell_other w p g v hp).trans h
theorem Row.alloc {w : World} {g : Nat} {C : Array Value} {t : TypeId} (h : Row w g C t) (o : Obj) : Row (w.alloc o) g C t := (Below.heap_alloc w o g (lt_of_row h)).trans h
theorem Row.new (w : World) (C : Array Value) (t : TypeId) : Row (w.alloc (.cells C t)) w.heap.size C t := Go.heap_alloc_new w _
theorem Row.keep {S : Nat → Prop} {w w' : World} {g : Nat} {C : Array Value} {t : TypeId} (h : Row w g C t) (hm : Mod S w w') (hs : ¬ S g) : Row w' g C t := hm.keep h hs

/-- One array laid over the beginning of another. -/
def over (D C : Array Value) : Array Value := C.zipIdx.foldl (fun cs (p : Value × Nat) => cs.setIfInBounds (0 + p.2) p.1) D
theorem over_list (l : List Value) : ∀ (n : Nat) (D : Array Value) (k : Nat),
    (((l.zipIdx n).foldl (fun (cs : Array Value) (p : Value × Nat) => cs.setIfInBounds (0 + p.2) p.1) D))[k]? = if n ≤ k ∧ k < n + l.length ∧ k < D.size then l[k - n]? else D[k]? := by
  induction l with
  | nil => intro n D k; simp; omega
  | cons v l ih =>
    intro n D k
    simp only [List.zipIdx_cons, List.foldl_cons]
    rw [ih (n + 1)]
    simp only [Array.size_setIfInBounds, List.length_cons, Nat.zero_add, Array.getElem?_setIfInBounds]
    by_cases h1 : n = k
    · subst h1
      by_cases h2 : n < D.size
      · simp [h2]; omega
      · simp [h2]
    · by_cases h2 : n + 1 ≤ k ∧ k < n + 1 + l.length ∧ k < D.size
      · rw [if_pos h2, if_pos (by omega), show k - n = (k - (n + 1)) + 1 from by omega]; simp
      · rw [if_neg h2, if_neg h1, if_neg (by omega)]
theorem over_get (D C : Array Value) (k : Nat) : (over D C)[k]? = if k < C.size ∧ k < D.size then C[k]? else D[k]? := by
  unfold over
  have h := over_list C.toList 0 D k
  rw [← Array.foldl_toList, Array.toList_zipIdx, h]
  simp only [Nat.zero_le, true_and, Nat.zero_add, Array.length_toList, Nat.sub_zero, Array.getElem?_toList]
theorem over_size_list (l : List Value) : ∀ (n : Nat) (D : Array Value), ((l.zipIdx n).foldl (fun (cs : Array Value) (p : Value × Nat) => cs.setIfInBounds (0 + p.2) p.1) D).size = D.size := by
  induction l with
  | nil => intro n D; rfl
  | cons v l ih => intro n D; simp only [List.zipIdx_cons, List.foldl_cons]; rw [ih]; simp
theorem over_size (D C : Array Value) : (over D C).size = D.size := by
  unfold over
  rw [← Array.foldl_toList, Array.toList_zipIdx]
  exact over_size_list _ 0 D

/-- A new variable of a struct or array type. -/
theorem wpList_alloc_z {ops : Array Oper} {rest : List Oper} {o : Oper} {a : Act} {w : World} {Q : Exit → Act → World → Prop} (hgd : o.guard = none) (ty : TypeId) (ho : o.op = .alloc ty) (Z : Array Value)
    (hz : (zeroValue ty).run Tryz.prog w = .ok (.agg Z) w)
    (h : wpList Tryz.prog ops Q rest (a.put o.dst (.pointer (some ⟨w.heap.size, 0, none⟩))) (w.alloc (.cells Z ty))) : wpList Tryz.prog ops Q (o :: rest) a w := by
  refine wpList_plain hgd fun K hK => ?_
  unfold Oper.wp execOp
  simp only [ho]
  simp [Instr.alloc, hz, newVar, Value.cells, Result.andThen]
  exact hK _ _ h
theorem wpList_box_z {ops : Array Oper} {rest : List Oper} {o : Oper} {a : Act} {w : World} {Q : Exit → Act → World → Prop} (hgd : o.guard = none) (ty : TypeId) (x : Operand) (ho : o.op = .box ty x) (C : Array Value)
    (hx : a.eval x = .agg C)
    (h : wpList Tryz.prog ops Q rest (a.put o.dst (.pointer (some ⟨w.heap.size, 0, none⟩))) (w.alloc (.cells C ty))) : wpList Tryz.prog ops Q (o :: rest) a w := by
  refine wpList_plain hgd fun K hK => ?_
  unfold Oper.wp execOp
  simp only [ho]
  simp [Instr.box, hx, newVar, Value.cells, Result.andThen]
  exact hK _ _ h
end Go.Proofs.YtadpeebcombjnaaGreatDoor
namespace Go.Proofs.YtadpeebcombjnaaGreatDoor
open Go Go.Proofs Go.RowKit
set_option maxRecDepth 100000
/-- A text scanner's memory: which bytes lie in its buffer, where it stands, and what it keeps. -/
structure Scn (n : Nat) (T : List UInt8) (ri : Value) (off p e : Nat) (lc tp te ch : Int) (tb ef : Value) (mode : Int) (C : Array Value) : Prop where
  size : C.size = n
  big : 1048 ≤ n
  ele : e ≤ 1024
  buf : ∀ i, i < e → C[1 + i]? = some (.int .u8 ((T.getD (off + i) 0).toNat : Int))
  sent : C[1 + e]? = some (.int .u8 128)
  src : C[0]? = some (ri)
  pos : C[1026]? = some (.int .i64 (p : Nat))
  endp : C[1027]? = some (.int .i64 (e : Nat))
  boff : C[1028]? = some (.int .i64 (off : Nat))
  line : ∃ x : Int, C[1029]? = some (.int .i64 x)
  col : ∃ x : Int, C[1030]? = some (.int .i64 x)
  lll : ∃ x : Int, C[1031]? = some (.int .i64 x)
  lcl : C[1032]? = some (.int .i64 lc)
  tbv : C[1033]? = some (tb)
  tbo : C[1034]? = some (.int .i64 0)
  tbl : ∃ x : Int, C[1035]? = some (.int .i8 x)
  tpv : C[1036]? = some (.int .i64 tp)
  tev : C[1037]? = some (.int .i64 te)
  chv : C[1038]? = some (.int .i32 ch)
  efv : C[1039]? = some (ef)
  ec : ∃ x : Int, C[1040]? = some (.int .i64 x)
  modev : C[1041]? = some (.int .u64 mode)
  ws : C[1042]? = some (.int .u64 4294977024)
  iir : C[1043]? = some (.nilFunc)
  fnm : ∃ x : ByteArray, C[1044]? = some (.string x)
  o1 : ∃ x : Int, C[1045]? = some (.int .i64 x)
  l1 : ∃ x : Int, C[1046]? = some (.int .i64 x)
  c1 : ∃ x : Int, C[1047]? = some (.int .i64 x)
theorem set_ne {C : Array Value} {i j : Nat} (h : i ≠ j) (v : Value) : (C.setIfInBounds i v)[j]? = C[j]? := by rw [Array.getElem?_setIfInBounds, if_neg h]
theorem set_eq {C : Array Value} {i : Nat} (h : i < C.size) (v : Value) : (C.setIfInBounds i v)[i]? = some v := by rw [Array.getElem?_setIfInBounds, if_pos rfl, if_pos h]
theorem Scn.setPos {n : Nat} {T : List UInt8} {ri : Value} {off p e : Nat} {lc tp te ch : Int} {tb ef : Value} {mode : Int} {C : Array Value} (h : Scn n T ri off p e lc tp te ch tb ef mode C) (q : Nat) : Scn n T ri off q e lc tp te ch tb ef mode (C.setIfInBounds 1026 (.int .i64 (q : Nat))) where
  size := by simp [h.size]
  big := h.big
  ele := h.ele
  buf := fun i hi => (set_ne (by have := h.ele; omega) _).trans (h.buf i hi)
  sent := (set_ne (by have := h.ele; omega) _).trans h.sent
  src := (set_ne (by decide) _).trans h.src
  pos := set_eq (by rw [h.size]; have := h.big; omega) _
  endp := (set_ne (by decide) _).trans h.endp
  boff := (set_ne (by decide) _).trans h.boff
  line := h.line.imp fun _ hx => (set_ne (by decide) _).trans hx
  col := h.col.imp fun _ hx => (set_ne (by decide) _).trans hx
  lll := h.lll.imp fun _ hx => (set_ne (by decide) _).trans hx
  lcl := (set_ne (by decide) _).trans h.lcl
  tbv := (set_ne (by decide) _).trans h.tbv
  tbo := (set_ne (by decide) _).trans h.tbo
  tbl := h.tbl.imp fun _ hx => (set_ne (by decide) _).trans hx
  tpv := (set_ne (by decide) _).trans h.tpv
  tev := (set_ne (by decide) _).trans h.tev
  chv := (set_ne (by decide) _).trans h.chv
  efv := (set_ne (by decide) _).trans h.efv
  ec := h.ec.imp fun _ hx => (set_ne (by decide) _).trans hx
  modev := (set_ne (by decide) _).trans h.modev
  ws := (set_ne (by decide) _).trans h.ws
  iir := (set_ne (by decide) _).trans h.iir
  fnm := h.fnm.imp fun _ hx => (set_ne (by decide) _).trans hx
  o1 := h.o1.imp fun _ hx => (set_ne (by decide) _).trans hx
  l1 := h.l1.imp fun _ hx => (set_ne (by decide) _).trans hx
  c1 := h.c1.imp fun _ hx => (set_ne (by decide) _).trans hx
theorem Scn.setLine {n : Nat} {T : List UInt8} {ri : Value} {off p e : Nat} {lc tp te ch : Int} {tb ef : Value} {mode : Int} {C : Array Value} (h : Scn n T ri off p e lc tp te ch tb ef mode C) (x : Int) : Scn n T ri off p e lc tp te ch tb ef mode (C.setIfInBounds 1029 (.int .i64 x)) where
  size := by simp [h.size]
  big := h.big
  ele := h.ele
  buf := fun i hi => (set_ne (by have := h.ele; omega) _).trans (h.buf i hi)
  sent := (set_ne (by have := h.ele; omega) _).trans h.sent
  src := (set_ne (by decide) _).trans h.src
  pos := (set_ne (by decide) _).trans h.pos
  endp := (set_ne (by decide) _).trans h.endp
  boff := (set_ne (by decide) _).trans h.boff
  line := ⟨_, set_eq (by rw [h.size]; have := h.big; omega) _⟩
  col := h.col.imp fun _ hx => (set_ne (by decide) _).trans hx
  lll := h.lll.imp fun _ hx => (set_ne (by decide) _).trans hx
  lcl := (set_ne (by decide) _).trans h.lcl
  tbv := (set_ne (by decide) _).trans h.tbv
  tbo := (set_ne (by decide) _).trans h.tbo
  tbl := h.tbl.imp fun _ hx => (set_ne (by decide) _).trans hx
  tpv := (set_ne (by decide) _).trans h.tpv
  tev := (set_ne (by decide) _).trans h.tev
  chv := (set_ne (by decide) _).trans h.chv
  efv := (set_ne (by decide) _).trans h.efv
  ec := h.ec.imp fun _ hx => (set_ne (by decide) _).trans hx
  modev := (set_ne (by decide) _).trans h.modev
  ws := (set_ne (by decide) _).trans h.ws
  iir := (set_ne (by decide) _).trans h.iir
  fnm := h.fnm.imp fun _ hx => (set_ne (by decide) _).trans hx
  o1 := h.o1.imp fun _ hx => (set_ne (by decide) _).trans hx
  l1 := h.l1.imp fun _ hx => (set_ne (by decide) _).trans hx
  c1 := h.c1.imp fun _ hx => (set_ne (by decide) _).trans hx
theorem Scn.setCol {n : Nat} {T : List UInt8} {ri : Value} {off p e : Nat} {lc tp te ch : Int} {tb ef : Value} {mode : Int} {C : Array Value} (h : Scn n T ri off p e lc tp te ch tb ef mode C) (x : Int) : Scn n T ri off p e lc tp te ch tb ef mode (C.setIfInBounds 1030 (.int .i64 x)) where
  size := by simp [h.size]
  big := h.big
  ele := h.ele
  buf := fun i hi => (set_ne (by have := h.ele; omega) _).trans (h.buf i hi)
  sent := (set_ne (by have := h.ele; omega) _).trans h.sent
  src := (set_ne (by decide) _).trans h.src
  pos := (set_ne (by decide) _).trans h.pos
  endp := (set_ne (by decide) _).trans h.endp
  boff := (set_ne (by decide) _).trans h.boff
  line := h.line.imp fun _ hx => (set_ne (by decide) _).trans hx
  col := ⟨_, set_eq (by rw [h.size]; have := h.big; omega) _⟩
  lll := h.lll.imp fun _ hx => (set_ne (by decide) _).trans hx
  lcl := (set_ne (by decide) _).trans h.lcl
  tbv := (set_ne (by decide) _).trans h.tbv
  tbo := (set_ne (by decide) _).trans h.tbo
  tbl := h.tbl.imp fun _ hx => (set_ne (by decide) _).trans hx
  tpv := (set_ne (by decide) _).trans h.tpv
  tev := (set_ne (by decide) _).trans h.tev
  chv := (set_ne (by decide) _).trans h.chv
  efv := (set_ne (by decide) _).trans h.efv
  ec := h.ec.imp fun _ hx => (set_ne (by decide) _).trans hx
  modev := (set_ne (by decide) _).trans h.modev
  ws := (set_ne (by decide) _).trans h.ws
  iir := (set_ne (by decide) _).trans h.iir
  fnm := h.fnm.imp fun _ hx => (set_ne (by decide) _).trans hx
  o1 := h.o1.imp fun _ hx => (set_ne (by decide) _).trans hx
  l1 := h.l1.imp fun _ hx => (set_ne (by decide) _).trans hx
  c1 := h.c1.imp fun _ hx => (set_ne (by decide) _).trans hx
theorem Scn.setLll {n : Nat} {T : List UInt8} {ri : Value} {off p e : Nat} {lc tp te ch : Int} {tb ef : Value} {mode : Int} {C : Array Value} (h : Scn n T ri off p e lc tp te ch tb ef mode C) (x : Int) : Scn n T ri off p e lc tp te ch tb ef mode (C.setIfInBounds 1031 (.int .i64 x)) where
  size := by simp [h.size]
  big := h.big
  ele := h.ele
  buf := fun i hi => (set_ne (by have := h.ele; omega) _).trans (h.buf i hi)
  sent := (set_ne (by have := h.ele; omega) _).trans h.sent
  src := (set_ne (by decide) _).trans h.src
  pos := (set_ne (by decide) _).trans h.pos
  endp := (set_ne (by decide) _).trans h.endp
  boff := (set_ne (by decide) _).trans h.boff
  line := h.line.imp fun _ hx => (set_ne (by decide) _).trans hx
  col := h.col.imp fun _ hx => (set_ne (by decide) _).trans hx
  lll := ⟨_, set_eq (by rw [h.size]; have := h.big; omega) _⟩
  lcl := (set_ne (by decide) _).trans h.lcl
  tbv := (set_ne (by decide) _).trans h.tbv
  tbo := (set_ne (by decide) _).trans h.tbo
  tbl := h.tbl.imp fun _ hx => (set_ne (by decide) _).trans hx
  tpv := (set_ne (by decide) _).trans h.tpv
  tev := (set_ne (by decide) _).trans h.tev
  chv := (set_ne (by decide) _).trans h.chv
  efv := (set_ne (by decide) _).trans h.efv
  ec := h.ec.imp fun _ hx => (set_ne (by decide) _).trans hx
  modev := (set_ne (by decide) _).trans h.modev
  ws := (set_ne (by decide) _).trans h.ws
  iir := (set_ne (by decide) _).trans h.iir
  fnm := h.fnm.imp fun _ hx => (set_ne (by decide) _).trans hx
  o1 := h.o1.imp fun _ hx => (set_ne (by decide) _).trans hx
  l1 := h.l1.imp fun _ hx => (set_ne (by decide) _).trans hx
  c1 := h.c1.imp fun _ hx => (set_ne (by decide) _).trans hx
theorem Scn.setEc {n : Nat} {T : List UInt8} {ri : Value} {off p e : Nat} {lc tp te ch : Int} {tb ef : Value} {mode : Int} {C : Array Value} (h : Scn n T ri off p e lc tp te ch tb ef mode C) (x : Int) : Scn n T ri off p e lc tp te ch tb ef mode (C.setIfInBounds 1040 (.int .i64 x)) where
  size := by simp [h.size]
  big := h.big
  ele := h.ele
  buf := fun i hi => (set_ne (by have := h.ele; omega) _).trans (h.buf i hi)
  sent := (set_ne (by have := h.ele; omega) _).trans h.sent
  src := (set_ne (by decide) _).trans h.src
  pos := (set_ne (by decide) _).trans h.pos
  endp := (set_ne (by decide) _).trans h.endp
  boff := (set_ne (by decide) _).trans h.boff
  line := h.line.imp fun _ hx => (set_ne (by decide) _).trans hx
  col := h.col.imp fun _ hx => (set_ne (by decide) _).trans hx
  lll := h.lll.imp fun _ hx => (set_ne (by decide) _).trans hx
  lcl := (set_ne (by decide) _).trans h.lcl
  tbv := (set_ne (by decide) _).trans h.tbv
  tbo := (set_ne (by decide) _).trans h.tbo
  tbl := h.tbl.imp fun _ hx => (set_ne (by decide) _).trans hx
  tpv := (set_ne (by decide) _).trans h.tpv
  tev := (set_ne (by decide) _).trans h.tev
  chv := (set_ne (by decide) _).trans h.chv
  efv := (set_ne (by decide) _).trans h.efv
  ec := ⟨_, set_eq (by rw [h.size]; have := h.big; omega) _⟩
  modev := (set_ne (by decide) _).trans h.modev
  ws := (set_ne (by decide) _).trans h.ws
  iir := (set_ne (by decide) _).trans h.iir
  fnm := h.fnm.imp fun _ hx => (set_ne (by decide) _).trans hx
  o1 := h.o1.imp fun _ hx => (set_ne (by decide) _).trans hx
  l1 := h.l1.imp fun _ hx => (set_ne (by decide) _).trans hx
  c1 := h.c1.imp fun _ hx => (set_ne (by decide) _).trans hx
theorem Scn.setO1 {n : Nat} {T : List UInt8} {ri : Value} {off p e : Nat} {lc tp te ch : Int} {tb ef : Value} {mode : Int} {C : Array Value} (h : Scn n T ri off p e lc tp te ch tb ef mode C) (x : Int) : Scn n T ri off p e lc tp te ch tb ef mode (C.setIfInBounds 1045 (.int .i64 x)) where
  size := by simp [h.size]
  big := h.big
  ele := h.ele
  buf := fun i hi => (set_ne (by have := h.ele; omega) _).trans (h.buf i hi)
  sent := (set_ne (by have := h.ele; omega) _).trans h.sent
  src := (set_ne (by decide) _).trans h.src
  pos := (set_ne (by decide) _).trans h.pos
  endp := (set_ne (by decide) _).trans h.endp
  boff := (set_ne (by decide) _).trans h.boff
  line := h.line.imp fun _ hx => (set_ne (by decide) _).trans hx
  col := h.col.imp fun _ hx => (set_ne (by decide) _).trans hx
  lll := h.lll.imp fun _ hx => (set_ne (by decide) _).trans hx
  lcl := (set_ne (by decide) _).trans h.lcl
  tbv := (set_ne (by decide) _).trans h.tbv
  tbo := (set_ne (by decide) _).trans h.tbo
  tbl := h.tbl.imp fun _ hx => (set_ne (by decide) _).trans hx
  tpv := (set_ne (by decide) _).trans h.tpv
  tev := (set_ne (by decide) _).trans h.tev
  chv := (set_ne (by decide) _).trans h.chv
  efv := (set_ne (by decide) _).trans h.efv
  ec := h.ec.imp fun _ hx => (set_ne (by decide) _).trans hx
  modev := (set_ne (by decide) _).trans h.modev
  ws := (set_ne (by decide) _).trans h.ws
  iir := (set_ne (by decide) _).trans h.iir
  fnm := h.fnm.imp fun _ hx => (set_ne (by decide) _).trans hx
  o1 := ⟨_, set_eq (by rw [h.size]; have := h.big; omega) _⟩
  l1 := h.l1.imp fun _ hx => (set_ne (by decide) _).trans hx
  c1 := h.c1.imp fun _ hx => (set_ne (by decide) _).trans hx
theorem Scn.setL1 {n : Nat} {T : List UInt8} {ri : Value} {off p e : Nat} {lc tp te ch : Int} {tb ef : Value} {mode : Int} {C : Array Value} (h : Scn n T ri off p e lc tp te ch tb ef mode C) (x : Int) : Scn n T ri off p e lc tp te ch tb ef mode (C.setIfInBounds 1046 (.int .i64 x)) where
  size := by simp [h.size]
  big := h.big
  ele := h.ele
  buf := fun i hi => (set_ne (by have := h.ele; omega) _).trans (h.buf i hi)
  sent := (set_ne (by have := h.ele; omega) _).trans h.sent
  src := (set_ne (by decide) _).trans h.src
  pos := (set_ne (by decide) _).trans h.pos
  endp := (set_ne (by decide) _).trans h.endp
  boff := (set_ne (by decide) _).trans h.boff
  line := h.line.imp fun _ hx => (set_ne (by decide) _).trans hx
  col := h.col.imp fun _ hx => (set_ne (by decide) _).trans hx
  lll := h.lll.imp fun _ hx => (set_ne (by decide) _).trans hx
  lcl := (set_ne (by decide) _).trans h.lcl
  tbv := (set_ne (by decide) _).trans h.tbv
  tbo := (set_ne (by decide) _).trans h.tbo
  tbl := h.tbl.imp fun _ hx => (set_ne (by decide) _).trans hx
  tpv := (set_ne (by decide) _).trans h.tpv
  tev := (set_ne (by decide) _).trans h.tev
  chv := (set_ne (by decide) _).trans h.chv
  efv := (set_ne (by decide) _).trans h.efv
  ec := h.ec.imp fun _ hx => (set_ne (by decide) _).trans hx
  modev := (set_ne (by decide) _).trans h.modev
  ws := (set_ne (by decide) _).trans h.ws
  iir := (set_ne (by decide) _).trans h.iir
  fnm := h.fnm.imp fun _ hx => (set_ne (by decide) _).trans hx
  o1 := h.o1.imp fun _ hx => (set_ne (by decide) _).trans hx
  l1 := ⟨_, set_eq (by rw [h.size]; have := h.big; omega) _⟩
  c1 := h.c1.imp fun _ hx => (set_ne (by decide) _).trans hx
theorem Scn.setC1 {n : Nat} {T : List UInt8} {ri : Value} {off p e : Nat} {lc tp te ch : Int} {tb ef : Value} {mode : Int} {C : Array Value} (h : Scn n T ri off p e lc tp te ch tb ef mode C) (x : Int) : Scn n T ri off p e lc tp te ch tb ef mode (C.setIfInBounds 1047 (.int .i64 x)) where
  size := by simp [h.size]
  big := h.big
  ele := h.ele
  buf := fun i hi => (set_ne (by have := h.ele; omega) _).trans (h.buf i hi)
  sent := (set_ne (by have := h.ele; omega) _).trans h.sent
  src := (set_ne (by decide) _).trans h.src
  pos := (set_ne (by decide) _).trans h.pos
  endp := (set_ne (by decide) _).trans h.endp
  boff := (set_ne (by decide) _).trans h.boff
  line := h.line.imp fun _ hx => (set_ne (by decide) _).trans hx
  col := h.col.imp fun _ hx => (set_ne (by decide) _).trans hx
  lll := h.lll.imp fun _ hx => (set_ne (by decide) _).trans hx
  lcl := (set_ne (by decide) _).trans h.lcl
  tbv := (set_ne (by decide) _).trans h.tbv
  tbo := (set_ne (by decide) _).trans h.tbo
  tbl := h.tbl.imp fun _ hx => (set_ne (by decide) _).trans hx
  tpv := (set_ne (by decide) _).trans h.tpv
  tev := (set_ne (by decide) _).trans h.tev
  chv := (set_ne (by decide) _).trans h.chv
  efv := (set_ne (by decide) _).trans h.efv
  ec := h.ec.imp fun _ hx => (set_ne (by decide) _).trans hx
  modev := (set_ne (by decide) _).trans h.modev
  ws := (set_ne (by decide) _).trans h.ws
  iir := (set_ne (by decide) _).trans h.iir
  fnm := h.fnm.imp fun _ hx => (set_ne (by decide) _).trans hx
  o1 := h.o1.imp fun _ hx => (set_ne (by decide) _).trans hx
  l1 := h.l1.imp fun _ hx => (set_ne (by decide) _).trans hx
  c1 := ⟨_, set_eq (by rw [h.size]; have := h.big; omega) _⟩
theorem Scn.setTbl {n : Nat} {T : List UInt8} {ri : Value} {off p e : Nat} {lc tp te ch : Int} {tb ef : Value} {mode : Int} {C : Array Value} (h : Scn n T ri off p e lc tp te ch tb ef mode C) (x : Int) : Scn n T ri off p e lc tp te ch tb ef mode (C.setIfInBounds 1035 (.int .i8 x)) where
  size := by simp [h.size]
  big := h.big
  ele := h.ele
  buf := fun i hi => (set_ne (by have := h.ele; omega) _).trans (h.buf i hi)
  sent := (set_ne (by have := h.ele; omega) _).trans h.sent
  src := (set_ne (by decide) _).trans h.src
  pos := (set_ne (by decide) _).trans h.pos
  endp := (set_ne (by decide) _).trans h.endp
  boff := (set_ne (by decide) _).trans h.boff
  line := h.line.imp fun _ hx => (set_ne (by decide) _).trans hx
  col := h.col.imp fun _ hx => (set_ne (by decide) _).trans hx
  lll := h.lll.imp fun _ hx => (set_ne (by decide) _).trans hx
  lcl := (set_ne (by decide) _).trans h.lcl
  tbv := (set_ne (by decide) _).trans h.tbv
  tbo := (set_ne (by decide) _).trans h.tbo
  tbl := ⟨_, set_eq (by rw [h.size]; have := h.big; omega) _⟩
  tpv := (set_ne (by decide) _).trans h.tpv
  tev := (set_ne (by decide) _).trans h.tev
  chv := (set_ne (by decide) _).trans h.chv
  efv := (set_ne (by decide) _).trans h.efv
  ec := h.ec.imp fun _ hx => (set_ne (by decide) _).trans hx
  modev := (set_ne (by decide) _).trans h.modev
  ws := (set_ne (by decide) _).trans h.ws
  iir := (set_ne (by decide) _).trans h.iir
  fnm := h.fnm.imp fun _ hx => (set_ne (by decide) _).trans hx
  o1 := h.o1.imp fun _ hx => (set_ne (by decide) _).trans hx
  l1 := h.l1.imp fun _ hx => (set_ne (by decide) _).trans hx
  c1 := h.c1.imp fun _ hx => (set_ne (by decide) _).trans hx
theorem Scn.setLcl {n : Nat} {T : List UInt8} {ri : Value} {off p e : Nat} {lc tp te ch : Int} {tb ef : Value} {mode : Int} {C : Array Value} (h : Scn n T ri off p e lc tp te ch tb ef mode C) (q : Int) : Scn n T ri off p e q tp te ch tb ef mode (C.setIfInBounds 1032 (.int .i64 q)) where
  size := by simp [h.size]
  big := h.big
  ele := h.ele
  buf := fun i hi => (set_ne (by have := h.ele; omega) _).trans (h.buf i hi)
  sent := (set_ne (by have := h.ele; omega) _).trans h.sent
  src := (set_ne (by decide) _).trans h.src
  pos := (set_ne (by decide) _).trans h.pos
  endp := (set_ne (by decide) _).trans h.endp
  boff := (set_ne (by decide) _).trans h.boff
  line := h.line.imp fun _ hx => (set_ne (by decide) _).trans hx
  col := h.col.imp fun _ hx => (set_ne (by decide) _).trans hx
  lll := h.lll.imp fun _ hx => (set_ne (by decide) _).trans hx
  lcl := set_eq (by rw [h.size]; have := h.big; omega) _
  tbv := (set_ne (by decide) _).trans h.tbv
  tbo := (set_ne (by decide) _).trans h.tbo
  tbl := h.tbl.imp fun _ hx => (set_ne (by decide) _).trans hx
  tpv := (set_ne (by decide) _).trans h.tpv
  tev := (set_ne (by decide) _).trans h.tev
  chv := (set_ne (by decide) _).trans h.chv
  efv := (set_ne (by decide) _).trans h.efv
  ec := h.ec.imp fun _ hx => (set_ne (by decide) _).trans hx
  modev := (set_ne (by decide) _).trans h.modev
  ws := (set_ne (by decide) _).trans h.ws
  iir := (set_ne (by decide) _).trans h.iir
  fnm := h.fnm.imp fun _ hx => (set_ne (by decide) _).trans hx
  o1 := h.o1.imp fun _ hx => (set_ne (by decide) _).trans hx
  l1 := h.l1.imp fun _ hx => (set_ne (by decide) _).trans hx
  c1 := h.c1.imp fun _ hx => (set_ne (by decide) _).trans hx
theorem Scn.setTp {n : Nat} {T : List UInt8} {ri : Value} {off p e : Nat} {lc tp te ch : Int} {tb ef : Value} {mode : Int} {C : Array Value} (h : Scn n T ri off p e lc tp te ch tb ef mode C) (q : Int) : Scn n T ri off p e lc q te ch tb ef mode (C.setIfInBounds 1036 (.int .i64 q)) where
  size := by simp [h.size]
  big := h.big
  ele := h.ele
  buf := fun i hi => (set_ne (by have := h.ele; omega) _).trans (h.buf i hi)
  sent := (set_ne (by have := h.ele; omega) _).trans h.sent
  src := (set_ne (by decide) _).trans h.src
  pos := (set_ne (by decide) _).trans h.pos
  endp := (set_ne (by decide) _).trans h.endp
  boff := (set_ne (by decide) _).trans h.boff
  line := h.line.imp fun _ hx => (set_ne (by decide) _).trans hx
  col := h.col.imp fun _ hx => (set_ne (by decide) _).trans hx
  lll := h.lll.imp fun _ hx => (set_ne (by decide) _).trans hx
  lcl := (set_ne (by decide) _).trans h.lcl
  tbv := (set_ne (by decide) _).trans h.tbv
  tbo := (set_ne (by decide) _).trans h.tbo
  tbl := h.tbl.imp fun _ hx => (set_ne (by decide) _).trans hx
  tpv := set_eq (by rw [h.size]; have := h.big; omega) _
  tev := (set_ne (by decide) _).trans h.tev
  chv := (set_ne (by decide) _).trans h.chv
  efv := (set_ne (by decide) _).trans h.efv
  ec := h.ec.imp fun _ hx => (set_ne (by decide) _).trans hx
  modev := (set_ne (by decide) _).trans h.modev
  ws := (set_ne (by decide) _).trans h.ws
  iir := (set_ne (by decide) _).trans h.iir
  fnm := h.fnm.imp fun _ hx => (set_ne (by decide) _).trans hx
  o1 := h.o1.imp fun _ hx => (set_ne (by decide) _).trans hx
  l1 := h.l1.imp fun _ hx => (set_ne (by decide) _).trans hx
  c1 := h.c1.imp fun _ hx => (set_ne (by decide) _).trans hx
theorem Scn.setTe {n : Nat} {T : List UInt8} {ri : Value} {off p e : Nat} {lc tp te ch : Int} {tb ef : Value} {mode : Int} {C : Array Value} (h : Scn n T ri off p e lc tp te ch tb ef mode C) (q : Int) : Scn n T ri off p e lc tp q ch tb ef mode (C.setIfInBounds 1037 (.int .i64 q)) where
  size := by simp [h.size]
  big := h.big
  ele := h.ele
  buf := fun i hi => (set_ne (by have := h.ele; omega) _).trans (h.buf i hi)
  sent := (set_ne (by have := h.ele; omega) _).trans h.sent
  src := (set_ne (by decide) _).trans h.src
  pos := (set_ne (by decide) _).trans h.pos
  endp := (set_ne (by decide) _).trans h.endp
  boff := (set_ne (by decide) _).trans h.boff
  line := h.line.imp fun _ hx => (set_ne (by decide) _).trans hx
  col := h.col.imp fun _ hx => (set_ne (by decide) _).trans hx
  lll := h.lll.imp fun _ hx => (set_ne (by decide) _).trans hx
  lcl := (set_ne (by decide) _).trans h.lcl
  tbv := (set_ne (by decide) _).trans h.tbv
  tbo := (set_ne (by decide) _).trans h.tbo
  tbl := h.tbl.imp fun _ hx => (set_ne (by decide) _).trans hx
  tpv := (set_ne (by decide) _).trans h.tpv
  tev := set_eq (by rw [h.size]; have := h.big; omega) _
  chv := (set_ne (by decide) _).trans h.chv
  efv := (set_ne (by decide) _).trans h.efv
  ec := h.ec.imp fun _ hx => (set_ne (by decide) _).trans hx
  modev := (set_ne (by decide) _).trans h.modev
  ws := (set_ne (by decide) _).trans h.ws
  iir := (set_ne (by decide) _).trans h.iir
  fnm := h.fnm.imp fun _ hx => (set_ne (by decide) _).trans hx
  o1 := h.o1.imp fun _ hx => (set_ne (by decide) _).trans hx
  l1 := h.l1.imp fun _ hx => (set_ne (by decide) _).trans hx
  c1 := h.c1.imp fun _ hx => (set_ne (by decide) _).trans hx
theorem Scn.setCh {n : Nat} {T : List UInt8} {ri : Value} {off p e : Nat} {lc tp te ch : Int} {tb ef : Value} {mode : Int} {C : Array Value} (h : Scn n T ri off p e lc tp te ch tb ef mode C) (q : Int) : Scn n T ri off p e lc tp te q tb ef mode (C.setIfInBounds 1038 (.int .i32 q)) where
  size := by simp [h.size]
  big := h.big
  ele := h.ele
  buf := fun i hi => (set_ne (by have := h.ele; omega) _).trans (h.buf i hi)
  sent := (set_ne (by have := h.ele; omega) _).trans h.sent
  src := (set_ne (by decide) _).trans h.src
  pos := (set_ne (by decide) _).trans h.pos
  endp := (set_ne (by decide) _).trans h.endp
  boff := (set_ne (by decide) _).trans h.boff
  line := h.line.imp fun _ hx => (set_ne (by decide) _).trans hx
  col := h.col.imp fun _ hx => (set_ne (by decide) _).trans hx
  lll := h.lll.imp fun _ hx => (set_ne (by decide) _).trans hx
  lcl := (set_ne (by decide) _).trans h.lcl
  tbv := (set_ne (by decide) _).trans h.tbv
  tbo := (set_ne (by decide) _).trans h.tbo
  tbl := h.tbl.imp fun _ hx => (set_ne (by decide) _).trans hx
  tpv := (set_ne (by decide) _).trans h.tpv
  tev := (set_ne (by decide) _).trans h.tev
  chv := set_eq (by rw [h.size]; have := h.big; omega) _
  efv := (set_ne (by decide) _).trans h.efv
  ec := h.ec.imp fun _ hx => (set_ne (by decide) _).trans hx
  modev := (set_ne (by decide) _).trans h.modev
  ws := (set_ne (by decide) _).trans h.ws
  iir := (set_ne (by decide) _).trans h.iir
  fnm := h.fnm.imp fun _ hx => (set_ne (by decide) _).trans hx
  o1 := h.o1.imp fun _ hx => (set_ne (by decide) _).trans hx
  l1 := h.l1.imp fun _ hx => (set_ne (by decide) _).trans hx
  c1 := h.c1.imp fun _ hx => (set_ne (by decide) _).trans hx
theorem Scn.setTb {n : Nat} {T : List UInt8} {ri : Value} {off p e : Nat} {lc tp te ch : Int} {tb ef : Value} {mode : Int} {C : Array Value} (h : Scn n T ri off p e lc tp te ch tb ef mode C) (q : Value) : Scn n T ri off p e lc tp te ch q ef mode (C.setIfInBounds 1033 (q)) where
  size := by simp [h.size]
  big := h.big
  ele := h.ele
  buf := fun i hi => (set_ne (by have := h.ele; omega) _).trans (h.buf i hi)
  sent := (set_ne (by have := h.ele; omega) _).trans h.sent
  src := (set_ne (by decide) _).trans h.src
  pos := (set_ne (by decide) _).trans h.pos
  endp := (set_ne (by decide) _).trans h.endp
  boff := (set_ne (by decide) _).trans h.boff
  line := h.line.imp fun _ hx => (set_ne (by decide) _).trans hx
  col := h.col.imp fun _ hx => (set_ne (by decide) _).trans hx
  lll := h.lll.imp fun _ hx => (set_ne (by decide) _).trans hx
  lcl := (set_ne (by decide) _).trans h.lcl
  tbv := set_eq (by rw [h.size]; have := h.big; omega) _
  tbo := (set_ne (by decide) _).trans h.tbo
  tbl := h.tbl.imp fun _ hx => (set_ne (by decide) _).trans hx
  tpv := (set_ne (by decide) _).trans h.tpv
  tev := (set_ne (by decide) _).trans h.tev
  chv := (set_ne (by decide) _).trans h.chv
  efv := (set_ne (by decide) _).trans h.efv
  ec := h.ec.imp fun _ hx => (set_ne (by decide) _).trans hx
  modev := (set_ne (by decide) _).trans h.modev
  ws := (set_ne (by decide) _).trans h.ws
  iir := (set_ne (by decide) _).trans h.iir
  fnm := h.fnm.imp fun _ hx => (set_ne (by decide) _).trans hx
  o1 := h.o1.imp fun _ hx => (set_ne (by decide) _).trans hx
  l1 := h.l1.imp fun _ hx => (set_ne (by decide) _).trans hx
  c1 := h.c1.imp fun _ hx => (set_ne (by decide) _).trans hx
theorem Scn.setEf {n : Nat} {T : List UInt8} {ri : Value} {off p e : Nat} {lc tp te ch : Int} {tb ef : Value} {mode : Int} {C : Array Value} (h : Scn n T ri off p e lc tp te ch tb ef mode C) (q : Value) : Scn n T ri off p e lc tp te ch tb q mode (C.setIfInBounds 1039 (q)) where
  size := by simp [h.size]
  big := h.big
  ele := h.ele
  buf := fun i hi => (set_ne (by have := h.ele; omega) _).trans (h.buf i hi)
  sent := (set_ne (by have := h.ele; omega) _).trans h.sent
  src := (set_ne (by decide) _).trans h.src
  pos := (set_ne (by decide) _).trans h.pos
  endp := (set_ne (by decide) _).trans h.endp
  boff := (set_ne (by decide) _).trans h.boff
  line := h.line.imp fun _ hx => (set_ne (by decide) _).trans hx
  col := h.col.imp fun _ hx => (set_ne (by decide) _).trans hx
  lll := h.lll.imp fun _ hx => (set_ne (by decide) _).trans hx
  lcl := (set_ne (by decide) _).trans h.lcl
  tbv := (set_ne (by decide) _).trans h.tbv
  tbo := (set_ne (by decide) _).trans h.tbo
  tbl := h.tbl.imp fun _ hx => (set_ne (by decide) _).trans hx
  tpv := (set_ne (by decide) _).trans h.tpv
  tev := (set_ne (by decide) _).trans h.tev
  chv := (set_ne (by decide) _).trans h.chv
  efv := set_eq (by rw [h.size]; have := h.big; omega) _
  ec := h.ec.imp fun _ hx => (set_ne (by decide) _).trans hx
  modev := (set_ne (by decide) _).trans h.modev
  ws := (set_ne (by decide) _).trans h.ws
  iir := (set_ne (by decide) _).trans h.iir
  fnm := h.fnm.imp fun _ hx => (set_ne (by decide) _).trans hx
  o1 := h.o1.imp fun _ hx => (set_ne (by decide) _).trans hx
  l1 := h.l1.imp fun _ hx => (set_ne (by decide) _).trans hx
  c1 := h.c1.imp fun _ hx => (set_ne (by decide) _).trans hx
theorem Scn.setMode {n : Nat} {T : List UInt8} {ri : Value} {off p e : Nat} {lc tp te ch : Int} {tb ef : Value} {mode : Int} {C : Array Value} (h : Scn n T ri off p e lc tp te ch tb ef mode C) (q : Int) : Scn n T ri off p e lc tp te ch tb ef q (C.setIfInBounds 1041 (.int .u64 q)) where
  size := by simp [h.size]
  big := h.big
  ele := h.ele
  buf := fun i hi => (set_ne (by have := h.ele; omega) _).trans (h.buf i hi)
  sent := (set_ne (by have := h.ele; omega) _).trans h.sent
  src := (set_ne (by decide) _).trans h.src
  pos := (set_ne (by decide) _).trans h.pos
  endp := (set_ne (by decide) _).trans h.endp
  boff := (set_ne (by decide) _).trans h.boff
  line := h.line.imp fun _ hx => (set_ne (by decide) _).trans hx
  col := h.col.imp fun _ hx => (set_ne (by decide) _).trans hx
  lll := h.lll.imp fun _ hx => (set_ne (by decide) _).trans hx
  lcl := (set_ne (by decide) _).trans h.lcl
  tbv := (set_ne (by decide) _).trans h.tbv
  tbo := (set_ne (by decide) _).trans h.tbo
  tbl := h.tbl.imp fun _ hx => (set_ne (by decide) _).trans hx
  tpv := (set_ne (by decide) _).trans h.tpv
  tev := (set_ne (by decide) _).trans h.tev
  chv := (set_ne (by decide) _).trans h.chv
  efv := (set_ne (by decide) _).trans h.efv
  ec := h.ec.imp fun _ hx => (set_ne (by decide) _).trans hx
  modev := set_eq (by rw [h.size]; have := h.big; omega) _
  ws := (set_ne (by decide) _).trans h.ws
  iir := (set_ne (by decide) _).trans h.iir
  fnm := h.fnm.imp fun _ hx => (set_ne (by decide) _).trans hx
  o1 := h.o1.imp fun _ hx => (set_ne (by decide) _).trans hx
  l1 := h.l1.imp fun _ hx => (set_ne (by decide) _).trans hx
  c1 := h.c1.imp fun _ hx => (set_ne (by decide) _).trans hx
theorem Scn.setTbo {n : Nat} {T : List UInt8} {ri : Value} {off p e : Nat} {lc tp te ch : Int} {tb ef : Value} {mode : Int} {C : Array Value} (h : Scn n T ri off p e lc tp te ch tb ef mode C) : Scn n T ri off p e lc tp te ch tb ef mode (C.setIfInBounds 1034 (.int .i64 0)) where
  size := by simp [h.size]
  big := h.big
  ele := h.ele
  buf := fun i hi => (set_ne (by have := h.ele; omega) _).trans (h.buf i hi)
  sent := (set_ne (by have := h.ele; omega) _).trans h.sent
  src := (set_ne (by decide) _).trans h.src
  pos := (set_ne (by decide) _).trans h.pos
  endp := (set_ne (by decide) _).trans h.endp
  boff := (set_ne (by decide) _).trans h.boff
  line := h.line.imp fun _ hx => (set_ne (by decide) _).trans hx
  col := h.col.imp fun _ hx => (set_ne (by decide) _).trans hx
  lll := h.lll.imp fun _ hx => (set_ne (by decide) _).trans hx
  lcl := (set_ne (by decide) _).trans h.lcl
  tbv := (set_ne (by decide) _).trans h.tbv
  tbo := set_eq (by rw [h.size]; have := h.big; omega) _
  tbl := h.tbl.imp fun _ hx => (set_ne (by decide) _).trans hx
  tpv := (set_ne (by decide) _).trans h.tpv
  tev := (set_ne (by decide) _).trans h.tev
  chv := (set_ne (by decide) _).trans h.chv
  efv := (set_ne (by decide) _).trans h.efv
  ec := h.ec.imp fun _ hx => (set_ne (by decide) _).trans hx
  modev := (set_ne (by decide) _).trans h.modev
  ws := (set_ne (by decide) _).trans h.ws
  iir := (set_ne (by decide) _).trans h.iir
  fnm := h.fnm.imp fun _ hx => (set_ne (by decide) _).trans hx
  o1 := h.o1.imp fun _ hx => (set_ne (by decide) _).trans hx
  l1 := h.l1.imp fun _ hx => (set_ne (by decide) _).trans hx
  c1 := h.c1.imp fun _ hx => (set_ne (by decide) _).trans hx
end Go.Proofs.YtadpeebcombjnaaGreatDoor
namespace Go.Proofs.YtadpeebcombjnaaGreatDoor
open Go Go.Proofs Go.RowKit
set_option maxRecDepth 100000
noncomputable def Z98 : Array Value := match Tryz.prog.info? 98 with | some i => (match i.zero with | some z => z.cells | none => #[]) | none => #[]
noncomputable def Z100 : Array Value := match Tryz.prog.info? 100 with | some i => (match i.zero with | some z => z.cells | none => #[]) | none => #[]
noncomputable def Z103 : Array Value := match Tryz.prog.info? 103 with | some i => (match i.zero with | some z => z.cells | none => #[]) | none => #[]
theorem zero98 (w : World) : (zeroValue 98).run Tryz.prog w = .ok (.agg Z98) w := by kernel_rfl
theorem zero100 (w : World) : (zeroValue 100).run Tryz.prog w = .ok (.agg Z100) w := by kernel_rfl
theorem z98_size : Z98.size = 1048 := by kernel_rfl
theorem z100_size : Z100.size = 1049 := by kernel_rfl
theorem z103_size : Z103.size = 1049 := by kernel_rfl
theorem z100_last : Z100[1048]? = some (.string ⟨#[]⟩) := by kernel_rfl
theorem z98_list : Z98.toList = (.nilIface :: List.replicate 1025 (.int .u8 0)) ++ [.int .i64 0, .int .i64 0, .int .i64 0, .int .i64 0, .int .i64 0, .int .i64 0, .int .i64 0,
  .slice none 0 0, .int .i64 0, .int .i8 0, .int .i64 0, .int .i64 0, .int .i32 0, .nilFunc, .int .i64 0, .int .u64 0, .int .u64 0, .nilFunc, .string ⟨#[]⟩, .int .i64 0, .int .i64 0, .int .i64 0] := by kernel_rfl
theorem z100_list : Z100.toList = Z98.toList ++ [.string ⟨#[]⟩] := by kernel_rfl
theorem z98_at (k : Nat) (v : Value) (h : Z98.toList[k]? = some v) : Z98[k]? = some v := by rw [← Array.getElem?_toList]; exact h
theorem info98 : (Tryz.prog.info? 98).map (·.size) = some 1048 := by kernel_rfl
theorem info100 : (Tryz.prog.info? 100).map (·.size) = some 1049 := by kernel_rfl
theorem info103 : (Tryz.prog.info? 103).map (·.size) = some 1049 := by kernel_rfl
theorem built100 (v : Value) : Tryz.prog.built 100 [(0, v)] = Instr.fill (#[(0, 1048), (1048, 1)][·]?) Z100 [(0, v)] := by kernel_rfl
theorem built103 (v : Value) : Tryz.prog.built 103 [(0, v)] = Instr.fill (#[(0, 1049)][·]?) Z103 [(0, v)] := by kernel_rfl
theorem newReader_any (s : ByteArray) (w : World) :
    Calls Tryz.prog 54 #[.string s] w fun e w' => e = .returned (.pointer (some ⟨w.heap.size, 0, none⟩)) ∧ w' = w.alloc (.cells #[.string s, .int .i64 0, .int .i64 (-1)] 126) := by
  go_enter Tryz.func54, Tryz.ntmps54
  go_wp2
  go_ret
  exact ⟨rfl, rfl⟩
theorem scn_init (T : List UInt8) (ri : TypeId × Addr) (C : Array Value) (hs : C.size = 1048)
    (h1033 : C[1033]? = some (.slice none 0 0))
    (h1034 : C[1034]? = some (.int .i64 0))
    (h1035 : C[1035]? = some (.int .i8 0))
    (h1037 : C[1037]? = some (.int .i64 0))
    (h1043 : C[1043]? = some (.nilFunc))
    (h1044 : C[1044]? = some (.string ⟨#[]⟩))
    (h1045 : C[1045]? = some (.int .i64 0))
    (h1047 : C[1047]? = some (.int .i64 0))
    : Scn 1048 T (.iface ri.1 (.pointer (some ri.2))) 0 0 0 0 (-1) 0 (-2) (.slice none 0 0) .nilFunc 1012 ((((((((((((((((C.setIfInBounds 0 (.iface ri.1 (.pointer (some ri.2)))).setIfInBounds 1 (.int .u8 128)).setIfInBounds 1026 (.int .i64 0)).setIfInBounds 1027 (.int .i64 0)).setIfInBounds 1028 (.int .i64 0)).setIfInBounds 1029 (.int .i64 1)).setIfInBounds 1030 (.int .i64 0)).setIfInBounds 1031 (.int .i64 0)).setIfInBounds 1032 (.int .i64 0)).setIfInBounds 1036 (.int .i64 (-1))).setIfInBounds 1038 (.int .i32 (-2))).setIfInBounds 1039 (.nilFunc)).setIfInBounds 1040 (.int .i64 0)).setIfInBounds 1041 (.int .u64 1012)).setIfInBounds 1042 (.int .u64 4294977024)).setIfInBounds 1046 (.int .i64 0)) where
  size := by simp only [Array.size_setIfInBounds]; exact hs
  big := by decide
  ele := by decide
  buf := fun i hi => by omega
  sent := (set_ne (by decide) _).trans ((set_ne (by decide) _).trans ((set_ne (by decide) _).trans ((set_ne (by decide) _).trans ((set_ne (by decide) _).trans ((set_ne (by decide) _).trans ((set_ne (by decide) _).trans ((set_ne (by decide) _).trans ((set_ne (by decide) _).trans ((set_ne (by decide) _).trans ((set_ne (by decide) _).trans ((set_ne (by decide) _).trans ((set_ne (by decide) _).trans ((set_ne (by decide) _).trans (set_eq (by first | omega | (simp only [Array.size_setIfInBounds]; omega)) _))))))))))))))
  src := (set_ne (by decide) _).trans ((set_ne (by decide) _).trans ((set_ne (by decide) _).trans ((set_ne (by decide) _).trans ((set_ne (by decide) _).trans ((set_ne (by decide) _).trans ((set_ne (by decide) _).trans ((set_ne (by decide) _).trans ((set_ne (by decide) _).trans ((set_ne (by decide) _).trans ((set_ne (by decide) _).trans ((set_ne (by decide) _).trans ((set_ne (by decide) _).trans ((set_ne (by decide) _).trans ((set_ne (by decide) _).trans (set_eq (by first | omega | (simp only [Array.size_setIfInBounds]; omega)) _)))))))))))))))
  pos := (set_ne (by decide) _).trans ((set_ne (by decide) _).trans ((set_ne (by decide) _).trans ((set_ne (by decide) _).trans ((set_ne (by decide) _).trans ((set_ne (by decide) _).trans ((set_ne (by decide) _).trans ((set_ne (by decide) _).trans ((set_ne (by decide) _).trans ((set_ne (by decide) _).trans ((set_ne (by decide) _).trans ((set_ne (by decide) _).trans ((set_ne (by decide) _).trans (set_eq (by first | omega | (simp only [Array.size_setIfInBounds]; omega)) _)))))))))))))
  endp := (set_ne (by decide) _).trans ((set_ne (by decide) _).trans ((set_ne (by decide) _).trans ((set_ne (by decide) _).trans ((set_ne (by decide) _).trans ((set_ne (by decide) _).trans ((set_ne (by decide) _).trans ((set_ne (by decide) _).trans ((set_ne (by decide) _).trans ((set_ne (by decide) _).trans ((set_ne (by decide) _).trans ((set_ne (by decide) _).trans (set_eq (by first | omega | (simp only [Array.size_setIfInBounds]; omega)) _))))))))))))
  boff := (set_ne (by decide) _).trans ((set_ne (by decide) _).trans ((set_ne (by decide) _).trans ((set_ne (by decide) _).trans ((set_ne (by decide) _).trans ((set_ne (by decide) _).trans ((set_ne (by decide) _).trans ((set_ne (by decide) _).trans ((set_ne (by decide) _).trans ((set_ne (by decide) _).trans ((set_ne (by decide) _).trans (set_eq (by first | omega | (simp only [Array.size_setIfInBounds]; omega)) _)))))))))))
  line := ⟨_, (set_ne (by decide) _).trans ((set_ne (by decide) _).trans ((set_ne (by decide) _).trans ((set_ne (by decide) _).trans ((set_ne (by decide) _).trans ((set_ne (by decide) _).trans ((set_ne (by decide) _).trans ((set_ne (by decide) _).trans ((set_ne (by decide) _).trans ((set_ne (by decide) _).trans (set_eq (by first | omega | (simp only [Array.size_setIfInBounds]; omega)) _))))))))))⟩
  col := ⟨_, (set_ne (by decide) _).trans ((set_ne (by decide) _).trans ((set_ne (by decide) _).trans ((set_ne (by decide) _).trans ((set_ne (by decide) _).trans ((set_ne (by decide) _).trans ((set_ne (by decide) _).trans ((set_ne (by decide) _).trans ((set_ne (by decide) _).trans (set_eq (by first | omega | (simp only [Array.size_setIfInBounds]; omega)) _)))))))))⟩
  lll := ⟨_, (set_ne (by decide) _).trans ((set_ne (by decide) _).trans ((set_ne (by decide) _).trans ((set_ne (by decide) _).trans ((set_ne (by decide) _).trans ((set_ne (by decide) _).trans ((set_ne (by decide) _).trans ((set_ne (by decide) _).trans (set_eq (by first | omega | (simp only [Array.size_setIfInBounds]; omega)) _))))))))⟩
  lcl := (set_ne (by decide) _).trans ((set_ne (by decide) _).trans ((set_ne (by decide) _).trans ((set_ne (by decide) _).trans ((set_ne (by decide) _).trans ((set_ne (by decide) _).trans ((set_ne (by decide) _).trans (set_eq (by first | omega | (simp only [Array.size_setIfInBounds]; omega)) _)))))))
  tbv := (set_ne (by decide) _).trans ((set_ne (by decide) _).trans ((set_ne (by decide) _).trans ((set_ne (by decide) _).trans ((set_ne (by decide) _).trans ((set_ne (by decide) _).trans ((set_ne (by decide) _).trans ((set_ne (by decide) _).trans ((set_ne (by decide) _).trans ((set_ne (by decide) _).trans ((set_ne (by decide) _).trans ((set_ne (by decide) _).trans ((set_ne (by decide) _).trans ((set_ne (by decide) _).trans ((set_ne (by decide) _).trans ((set_ne (by decide) _).trans (h1033))))))))))))))))
  tbo := (set_ne (by decide) _).trans ((set_ne (by decide) _).trans ((set_ne (by decide) _).trans ((set_ne (by decide) _).trans ((set_ne (by decide) _).trans ((set_ne (by decide) _).trans ((set_ne (by decide) _).trans ((set_ne (by decide) _).trans ((set_ne (by decide) _).trans ((set_ne (by decide) _).trans ((set_ne (by decide) _).trans ((set_ne (by decide) _).trans ((set_ne (by decide) _).trans ((set_ne (by decide) _).trans ((set_ne (by decide) _).trans ((set_ne (by decide) _).trans (h1034))))))))))))))))
  tbl := ⟨_, (set_ne (by decide) _).trans ((set_ne (by decide) _).trans ((set_ne (by decide) _).trans ((set_ne (by decide) _).trans ((set_ne (by decide) _).trans ((set_ne (by decide) _).trans ((set_ne (by decide) _).trans ((set_ne (by decide) _).trans ((set_ne (by decide) _).trans ((set_ne (by decide) _).trans ((set_ne (by decide) _).trans ((set_ne (by decide) _).trans ((set_ne (by decide) _).trans ((set_ne (by decide) _).trans ((set_ne (by decide) _).trans ((set_ne (by decide) _).trans (h1035))))))))))))))))⟩
  tpv := (set_ne (by decide) _).trans ((set_ne (by decide) _).trans ((set_ne (by decide) _).trans ((set_ne (by decide) _).trans ((set_ne (by decide) _).trans ((set_ne (by decide) _).trans (set_eq (by first | omega | (simp only [Array.size_setIfInBounds]; omega)) _))))))
  tev := (set_ne (by decide) _).trans ((set_ne (by decide) _).trans ((set_ne (by decide) _).trans ((set_ne (by decide) _).trans ((set_ne (by decide) _).trans ((set_ne (by decide) _).trans ((set_ne (by decide) _).trans ((set_ne (by decide) _).trans ((set_ne (by decide) _).trans ((set_ne (by decide) _).trans ((set_ne (by decide) _).trans ((set_ne (by decide) _).trans ((set_ne (by decide) _).trans ((set_ne (by decide) _).trans ((set_ne (by decide) _).trans ((set_ne (by decide) _).trans (h1037))))))))))))))))
  chv := (set_ne (by decide) _).trans ((set_ne (by decide) _).trans ((set_ne (by decide) _).trans ((set_ne (by decide) _).trans ((set_ne (by decide) _).trans (set_eq (by first | omega | (simp only [Array.size_setIfInBounds]; omega)) _)))))
  efv := (set_ne (by decide) _).trans ((set_ne (by decide) _).trans ((set_ne (by decide) _).trans ((set_ne (by decide) _).trans (set_eq (by first | omega | (simp only [Array.size_setIfInBounds]; omega)) _))))
  ec := ⟨_, (set_ne (by decide) _).trans ((set_ne (by decide) _).trans ((set_ne (by decide) _).trans (set_eq (by first | omega | (simp only [Array.size_setIfInBounds]; omega)) _)))⟩
  modev := (set_ne (by decide) _).trans ((set_ne (by decide) _).trans (set_eq (by first | omega | (simp only [Array.size_setIfInBounds]; omega)) _))
  ws := (set_ne (by decide) _).trans (set_eq (by first | omega | (simp only [Array.size_setIfInBounds]; omega)) _)
  iir := (set_ne (by decide) _).trans ((set_ne (by decide) _).trans ((set_ne (by decide) _).trans ((set_ne (by decide) _).trans ((set_ne (by decide) _).trans ((set_ne (by decide) _).trans ((set_ne (by decide) _).trans ((set_ne (by decide) _).trans ((set_ne (by decide) _).trans ((set_ne (by decide) _).trans ((set_ne (by decide) _).trans ((set_ne (by decide) _).trans ((set_ne (by decide) _).trans ((set_ne (by decide) _).trans ((set_ne (by decide) _).trans ((set_ne (by decide) _).trans (h1043))))))))))))))))
  fnm := ⟨_, (set_ne (by decide) _).trans ((set_ne (by decide) _).trans ((set_ne (by decide) _).trans ((set_ne (by decide) _).trans ((set_ne (by decide) _).trans ((set_ne (by decide) _).trans ((set_ne (by decide) _).trans ((set_ne (by decide) _).trans ((set_ne (by decide) _).trans ((set_ne (by decide) _).trans ((set_ne (by decide) _).trans ((set_ne (by decide) _).trans ((set_ne (by decide) _).trans ((set_ne (by decide) _).trans ((set_ne (by decide) _).trans ((set_ne (by decide) _).trans (h1044))))))))))))))))⟩
  o1 := ⟨_, (set_ne (by decide) _).trans ((set_ne (by decide) _).trans ((set_ne (by decide) _).trans ((set_ne (by decide) _).trans ((set_ne (by decide) _).trans ((set_ne (by decide) _).trans ((set_ne (by decide) _).trans ((set_ne (by decide) _).trans ((set_ne (by decide) _).trans ((set_ne (by decide) _).trans ((set_ne (by decide) _).trans ((set_ne (by decide) _).trans ((set_ne (by decide) _).trans ((set_ne (by decide) _).trans ((set_ne (by decide) _).trans ((set_ne (by decide) _).trans (h1045))))))))))))))))⟩
  l1 := ⟨_, set_eq (by first | omega | (simp only [Array.size_setIfInBounds]; omega)) _⟩
  c1 := ⟨_, (set_ne (by decide) _).trans ((set_ne (by decide) _).trans ((set_ne (by decide) _).trans ((set_ne (by decide) _).trans ((set_ne (by decide) _).trans ((set_ne (by decide) _).trans ((set_ne (by decide) _).trans ((set_ne (by decide) _).trans ((set_ne (by decide) _).trans ((set_ne (by decide) _).trans ((set_ne (by decide) _).trans ((set_ne (by decide) _).trans ((set_ne (by decide) _).trans ((set_ne (by decide) _).trans ((set_ne (by decide) _).trans ((set_ne (by decide) _).trans (h1047))))))))))))))))⟩
theorem Mod.set1 {S j : Nat} {a b : World} (h : Mod (· = S) a b) (v : Value) : Mod (· = S) a (b.setCell ⟨S, j, none⟩ v) := h.setCell (fun _ => rfl) v
theorem Scn.copy {n : Nat} {T : List UInt8} {ri : Value} {off p e : Nat} {lc tp te ch : Int} {tb ef : Value} {mode : Int} {C : Array Value} (h : Scn n T ri off p e lc tp te ch tb ef mode C) {D : Array Value} {m : Nat} (hD : ∀ k, k < 1048 → D[k]? = C[k]?) (hs : D.size = m) (hm : 1048 ≤ m) : Scn m T ri off p e lc tp te ch tb ef mode D where
  size := hs
  big := hm
  ele := h.ele
  buf := fun i hi => (hD _ (by have := h.ele; omega)).trans (h.buf i hi)
  sent := (hD _ (by have := h.ele; omega)).trans h.sent
  src := (hD _ (by decide)).trans h.src
  pos := (hD _ (by decide)).trans h.pos
  endp := (hD _ (by decide)).trans h.endp
  boff := (hD _ (by decide)).trans h.boff
  line := h.line.imp fun _ hx => (hD _ (by decide)).trans hx
  col := h.col.imp fun _ hx => (hD _ (by decide)).trans hx
  lll := h.lll.imp fun _ hx => (hD _ (by decide)).trans hx
  lcl := (hD _ (by decide)).trans h.lcl
  tbv := (hD _ (by decide)).trans h.tbv
  tbo := (hD _ (by decide)).trans h.tbo
  tbl := h.tbl.imp fun _ hx => (hD _ (by decide)).trans hx
  tpv := (hD _ (by decide)).trans h.tpv
  tev := (hD _ (by decide)).trans h.tev
  chv := (hD _ (by decide)).trans h.chv
  efv := (hD _ (by decide)).trans h.efv
  ec := h.ec.imp fun _ hx => (hD _ (by decide)).trans hx
  modev := (hD _ (by decide)).trans h.modev
  ws := (hD _ (by decide)).trans h.ws
  iir := (hD _ (by decide)).trans h.iir
  fnm := h.fnm.imp fun _ hx => (hD _ (by decide)).trans hx
  o1 := h.o1.imp fun _ hx => (hD _ (by decide)).trans hx
  l1 := h.l1.imp fun _ hx => (hD _ (by decide)).trans hx
  c1 := h.c1.imp fun _ hx => (hD _ (by decide)).trans hx
theorem all_set {C : Array Value} {i : Nat} {v : Value} (h : C.all (·.oneCell') = true) (hv : v.oneCell' = true) : (C.setIfInBounds i v).all (·.oneCell') = true := by
  rw [Array.all_eq_true_iff_forall_mem] at h ⊢
  intro x hx
  rcases Array.mem_or_eq_of_mem_setIfInBounds hx with h1 | h1
  · exact h x h1
  · rw [h1]; exact hv
theorem all_over {D C : Array Value} (h : D.all (·.oneCell') = true) (hc : C.all (·.oneCell') = true) : (over D C).all (·.oneCell') = true := by
  rw [Array.all_eq_true_iff_forall_mem] at h hc ⊢
  intro x hx
  obtain ⟨k, hk, rfl⟩ := Array.mem_iff_getElem.1 hx
  have e := over_get D C k
  rw [Array.getElem?_eq_getElem hk] at e
  split at e
  · rename_i hlt
    rw [Array.getElem?_eq_getElem hlt.1] at e
    rw [Option.some.inj e]
    exact hc _ (Array.getElem_mem _)
  · rw [over_size] at hk
    rw [Array.getElem?_eq_getElem hk] at e
    rw [Option.some.inj e]
    exact h _ (Array.getElem_mem _)
theorem z98_all : Z98.all (·.oneCell') = true := by
  rw [← Array.all_toList, z98_list, List.all_append, List.all_cons, List.all_replicate]
  decide
theorem z100_all : Z100.all (·.oneCell') = true := by
  rw [← Array.all_toList, z100_list, List.all_append, Array.all_toList, z98_all]
  decide
theorem fill_over (Z C : Array Value) (n : Nat) (hn : C.size = n) (hm : n ≤ Z.size) (place : Nat → Option (Nat × Nat)) (hp : place 0 = some (0, n)) :
    Instr.fill place Z [(0, .agg C)] = some (over Z C) := by
  simp only [Instr.fill, hp, Value.cells, hn]
  rw [if_neg (by simp; omega)]
  rfl
theorem fill100 (C : Array Value) (h : C.size = 1048) : Tryz.prog.built 100 [(0, .agg C)] = some (over Z100 C) := by
  rw [built100]; exact fill_over Z100 C 1048 h (by rw [z100_size]; decide) _ rfl
theorem fill103 (C : Array Value) (h : C.size = 1049) : Tryz.prog.built 103 [(0, .agg C)] = some (over Z103 C) := by
  rw [built103]; exact fill_over Z103 C 1049 h (by rw [z103_size]; decide) _ rfl
theorem wpList_build1 {ops : Array Oper} {rest : List Oper} {o : Oper} {a : Act} {w : World} {Q : Exit → Act → World → Prop} (hg : o.guard = none) (t : TypeId) (x : Operand) (ho : o.op = .build t #[(0, x)])
    (C D : Array Value) (hx : a.eval x = .agg C) (hb : Tryz.prog.built t [(0, .agg C)] = some D)
    (h : wpList Tryz.prog ops Q rest (a.put o.dst (.agg D)) w) : wpList Tryz.prog ops Q (o :: rest) a w := by
  refine wpList_build hg t #[(0, x)] ho (by simp [hx, hb]) ?_
  simp only [List.map_toArray, List.map_cons, List.map_nil, hx, hb, Option.getD_some]
  exact h

set_option maxHeartbeats 2000000 in
theorem init_any (S : Nat) (T : List UInt8) (ri : TypeId × Addr) (w : World) (h : Row w S Z98 98) :
    Calls Tryz.prog 53 #[.pointer (some ⟨S, 0, none⟩), .iface ri.1 (.pointer (some ri.2))] w fun e w' => e = .returned (.pointer (some ⟨S, 0, none⟩)) ∧
      ∃ C, Row w' S C 98 ∧ Mod (· = S) w w' ∧ Scn 1048 T (.iface ri.1 (.pointer (some ri.2))) 0 0 0 0 (-1) 0 (-2) (.slice none 0 0) .nilFunc 1012 C ∧ C.all (·.oneCell') = true := by
  have hf := h.frozen
  have c0 := h.cell (z98_at 0 .nilIface (by rw [z98_list]; rfl))
  have c1 := h.cell (z98_at 1 (.int .u8 0) (by rw [z98_list]; rfl))
  have c2 := h.cell (z98_at 1026 (.int .i64 0) (by rw [z98_list]; rfl))
  have c3 := h.cell (z98_at 1027 (.int .i64 0) (by rw [z98_list]; rfl))
  have c4 := h.cell (z98_at 1028 (.int .i64 0) (by rw [z98_list]; rfl))
  have c5 := h.cell (z98_at 1029 (.int .i64 0) (by rw [z98_list]; rfl))
  have c6 := h.cell (z98_at 1030 (.int .i64 0) (by rw [z98_list]; rfl))
  have c7 := h.cell (z98_at 1031 (.int .i64 0) (by rw [z98_list]; rfl))
  have c8 := h.cell (z98_at 1032 (.int .i64 0) (by rw [z98_list]; rfl))
  have c9 := h.cell (z98_at 1036 (.int .i64 0) (by rw [z98_list]; rfl))
  have c10 := h.cell (z98_at 1038 (.int .i32 0) (by rw [z98_list]; rfl))
  have c11 := h.cell (z98_at 1039 .nilFunc (by rw [z98_list]; rfl))
  have c12 := h.cell (z98_at 1040 (.int .i64 0) (by rw [z98_list]; rfl))
  have c13 := h.cell (z98_at 1041 (.int .u64 0) (by rw [z98_list]; rfl))
  have c14 := h.cell (z98_at 1042 (.int .u64 0) (by rw [z98_list]; rfl))
  have c15 := h.cell (z98_at 1046 (.int .i64 0) (by rw [z98_list]; rfl))
  have H := Lib.hid h
  clear h
  go_enter Tryz.func53, Tryz.ntmps53
  go_wp2
  go_ret
  have hm : Mod (· = S) w w := Mod.refl _ _
  have hr := (((((((((((((((H.out.set 0 (.iface ri.1 (.pointer (some ri.2)))).set 1 (.int .u8 128)).set 1026 (.int .i64 0)).set 1027 (.int .i64 0)).set 1028 (.int .i64 0)).set 1029 (.int .i64 1)).set 1030 (.int .i64 0)).set 1031 (.int .i64 0)).set 1032 (.int .i64 0)).set 1036 (.int .i64 (-1))).set 1038 (.int .i32 (-2))).set 1039 .nilFunc).set 1040 (.int .i64 0)).set 1041 (.int .u64 1012)).set 1042 (.int .u64 4294977024)).set 1046 (.int .i64 0)
  exact ⟨rfl, _, hr, ((((((((((((((((hm.set1 _).set1 _).set1 _).set1 _).set1 _).set1 _).set1 _).set1 _).set1 _).set1 _).set1 _).set1 _).set1 _).set1 _).set1 _).set1 _), scn_init T ri Z98 z98_size (z98_at _ _ (by rw [z98_list]; rfl)) (z98_at _ _ (by rw [z98_list]; rfl)) (z98_at _ _ (by rw [z98_list]; rfl)) (z98_at _ _ (by rw [z98_list]; rfl)) (z98_at _ _ (by rw [z98_list]; rfl)) (z98_at _ _ (by rw [z98_list]; rfl)) (z98_at _ _ (by rw [z98_list]; rfl)) (z98_at _ _ (by rw [z98_list]; rfl)), all_set (all_set (all_set (all_set (all_set (all_set (all_set (all_set (all_set (all_set (all_set (all_set (all_set (all_set (all_set (all_set (z98_all) rfl) rfl) rfl) rfl) rfl) rfl) rfl) rfl) rfl) rfl) rfl) rfl) rfl) rfl) rfl) rfl⟩

set_option maxHeartbeats 2000000 in
theorem newLexer_any (s : ByteArray) (w : World) :
    Calls Tryz.prog 44 #[.string s] w fun e w' => ∃ D R, e = .returned (.agg D) ∧ D.size = 1049 ∧ D.all (·.oneCell') = true ∧ D[1048]? = some (.string ⟨#[]⟩) ∧
      Scn 1049 s.data.toList (.iface 116 (.pointer (some ⟨R, 0, none⟩))) 0 0 0 0 (-1) 0 (-2) (.slice none 0 0) .nilFunc 28 D ∧
      Row w' R #[.string s, .int .i64 0, .int .i64 (-1)] 126 ∧ w.heap.size ≤ R ∧ Below w.heap.size w w' := by
  go_enter Tryz.func44, Tryz.ntmps44
  go_wp2_with (first | (refine wpList_alloc_z rfl 100 rfl Z100 (zero100 _) ?_) | (refine wpList_alloc_z rfl 98 rfl Z98 (zero98 _) ?_) | (go_at_call 54; refine (newReader_any s _).mono ?_; rintro e w' ⟨rfl, rfl⟩))
  have hS : Row (((w.alloc (.cells Z100 100)).alloc (.cells Z98 98)).alloc (.cells #[.string s, .int .i64 0, .int .i64 (-1)] 126)) (w.heap.size + 1) Z98 98 := by
    have h := Row.new (w.alloc (.cells Z100 100)) Z98 98
    rw [World.size_alloc] at h
    exact h.alloc _
  have hL : Row (((w.alloc (.cells Z100 100)).alloc (.cells Z98 98)).alloc (.cells #[.string s, .int .i64 0, .int .i64 (-1)] 126)) w.heap.size Z100 100 := ((Row.new w Z100 100).alloc _).alloc _
  have hR : Row (((w.alloc (.cells Z100 100)).alloc (.cells Z98 98)).alloc (.cells #[.string s, .int .i64 0, .int .i64 (-1)] 126)) (w.heap.size + 2) #[.string s, .int .i64 0, .int .i64 (-1)] 126 := by
    have h := Row.new ((w.alloc (.cells Z100 100)).alloc (.cells Z98 98)) #[.string s, .int .i64 0, .int .i64 (-1)] 126
    rw [World.size_alloc, World.size_alloc] at h
    exact h
  have hB : Below w.heap.size w (((w.alloc (.cells Z100 100)).alloc (.cells Z98 98)).alloc (.cells #[.string s, .int .i64 0, .int .i64 (-1)] 126)) := (((Below.refl _ _).alloc (Nat.le_refl _) _).alloc (by simp) _).alloc (by simp; omega) _
  refine (init_any (w.heap.size + 1) s.data.toList (116, ⟨w.heap.size + 2, 0, none⟩) _ hS).mono ?_
  clear hS
  rintro e w1 ⟨rfl, C, hC, hm, hscn, hall⟩
  have hL1 := Lib.hid (hL.keep hm (by simp))
  have hR1 := Lib.hid (hR.keep hm (by simp))
  have hB1 := Lib.hid (hB.trans (hm.below_of (N := w.heap.size) (by simp; omega) (fun k hk h => by omega)))
  have hmode := hC.cell hscn.modev
  have hfr := hC.frozen
  have HC := Lib.hid hC
  have HS := Lib.hid hscn
  obtain ⟨C2, hC2, HS2, HA2⟩ : ∃ C2, Row (w1.setCell ⟨w.heap.size + 1, 1041, none⟩ (.int .u64 28)) (w.heap.size + 1) C2 98 ∧ Scn 1049 s.data.toList (.iface 116 (.pointer (some ⟨w.heap.size + 2, 0, none⟩))) 0 0 0 0 (-1) 0 (-2) (.slice none 0 0) .nilFunc 28 (over Z100 C2) ∧ (C2.size = 1048 ∧ C2.all (·.oneCell') = true) := by
    have h2 := hscn.setMode 28
    exact ⟨_, hC.set 1041 _, h2.copy (fun k hk => by rw [over_get, if_pos ⟨by rw [h2.size]; exact hk, by rw [z100_size]; omega⟩]) (by rw [over_size, z100_size]) (by decide), h2.size, all_set hall rfl⟩
  have hL2 : Row (w1.setCell ⟨w.heap.size + 1, 1041, none⟩ (.int .u64 28)) w.heap.size Z100 100 := hL1.out.far (by simp) _
  have hR2 : Row (w1.setCell ⟨w.heap.size + 1, 1041, none⟩ (.int .u64 28)) (w.heap.size + 2) #[.string s, .int .i64 0, .int .i64 (-1)] 126 := hR1.out.far (by simp) _
  have hB2 := hB1.out.setCell (p := ⟨w.heap.size + 1, 1041, none⟩) (by simp) (.int .u64 28)
  have HC2 := Lib.hid hC2
  have HL2 := Lib.hid hL2
  have HR2 := Lib.hid hR2
  have HB2 := Lib.hid hB2
  have HSZ := Lib.hid HA2
  have HSC := Lib.hid HS2
  clear hL hR hB hm hC hscn hall hC2 hL2 hR2 hB2 HA2 HS2 HC HS hL1 hR1 hB1
  go_wp2_with (first | (refine wpList_load_row rfl 98 (.tmp 3) rfl _ rfl 98 C2 _ _ HC2.out Tryz.underlying98 rfl (by rw [info98, HSZ.out.1]) ?_) | (refine wpList_build1 rfl 100 (.tmp 9) rfl C2 (over Z100 C2) rfl (fill100 C2 HSZ.out.1) ?_) | (refine wpList_store_row rfl 100 (.tmp 2) (.tmp 10) rfl w.heap.size (over Z100 C2) rfl rfl 100 Z100 HL2.out (by rw [info100, over_size, z100_size]) (by rw [over_size]) (all_over z100_all HSZ.out.2) ?_))
  refine bodyPost_ret (results_cell_row rfl _ _ w.heap.size 100 (over Z100 C2) (0, 0) _ rfl (setRow_heap _ _ _ _ _ _ HL2.out) Tryz.underlying100 rfl (by rw [info100, over_size, z100_size])) rfl ?_
  refine ⟨over Z100 C2, w.heap.size + 2, rfl, by rw [over_size, z100_size], all_over z100_all HSZ.out.2, ?_, HSC.out, ?_, by omega, ?_⟩
  · rw [over_get, if_neg (by rw [HSZ.out.1]; omega)]; exact z100_last
  · exact (setRow_other _ _ _ _ (by omega)).trans HR2.out
  · exact below_setRow HB2.out (Nat.le_refl _) _
theorem newParser_any (s : ByteArray) (w : World) :
    Calls Tryz.prog 24 #[.string s] w fun e w' => ∃ D B R, e = .returned (.pointer (some ⟨B, 0, none⟩)) ∧ Row w' B D 103 ∧ D[1048]? = some (.string ⟨#[]⟩) ∧
      Scn 1049 s.data.toList (.iface 116 (.pointer (some ⟨R, 0, none⟩))) 0 0 0 0 (-1) 0 (-2) (.slice none 0 0) .nilFunc 28 D ∧
      Row w' R #[.string s, .int .i64 0, .int .i64 (-1)] 126 ∧ w.heap.size ≤ R ∧ w.heap.size ≤ B ∧ R ≠ B ∧ Below w.heap.size w w' := by
  go_enter Tryz.func24, Tryz.ntmps24
  go_wp2_with fail
  refine (newLexer_any s w).mono ?_
  rintro e w1 ⟨D, R, rfl, hD, hall, hlast, hscn, hR, hRs, hB⟩
  have HR := Lib.hid hR
  have HD := Lib.hid hD
  have HL := Lib.hid hlast
  have HS := Lib.hid hscn
  have HB := Lib.hid hB
  clear hR hD hlast hscn hB hall
  go_wp2_with (first | (refine wpList_build1 rfl 103 (.tmp 4) rfl D (over Z103 D) rfl (fill103 D HD.out) ?_) | (refine wpList_box_z rfl 103 (.tmp 5) rfl (over Z103 D) rfl ?_))
  go_ret
  have hg : ∀ k, k < 1049 → (over Z103 D)[k]? = D[k]? := fun k hk => by rw [over_get, if_pos ⟨by rw [HD.out]; exact hk, by rw [z103_size]; exact hk⟩]
  refine ⟨over Z103 D, w1.heap.size, R, rfl, Row.new _ _ _, (hg _ (by decide)).trans HL.out, HS.out.copy (fun k hk => hg k (by omega)) (by rw [over_size, z103_size]) (by decide), HR.out.alloc _, hRs, HB.out.size, Nat.ne_of_lt (lt_of_row HR.out), HB.out.alloc HB.out.size _⟩
end Go.Proofs.YtadpeebcombjnaaGreatDoor
