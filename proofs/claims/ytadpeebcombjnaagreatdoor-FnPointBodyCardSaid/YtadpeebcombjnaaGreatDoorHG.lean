/- A world that meets the row's condition. -/
import Derived.Test.YtadpeebcombjnaaGreatDoorHF
import Derived.Lib.LaidIn
import Derived.Lib.LaidRTab
namespace Go.Proofs.YtadpeebcombjnaaGreatDoor
open Go Go.Proofs Go.RowKit Go.Lib Go.ChangeShapes
set_option maxRecDepth 1000000
def prCells (x : Nat × Nat) : List Value := [.int .u64 (x.1 : Nat), .int .u64 (x.2 : Nat)]
def chCells (x : Nat × List UInt8) : List Value := [.int .i64 (x.1 : Nat), .string ⟨x.2.toArray⟩]
theorem flat2 {α : Type} (f : α → List Value) (hf : ∀ x, (f x).length = 2) : ∀ (l : List α) (i : Nat) (x : α), l[i]? = some x → ((l.flatMap f).drop (i * 2)).take 2 = f x
  | [], i, x, h => by simp at h
  | y :: t, 0, x, h => by
    simp at h
    subst h
    rw [List.flatMap_cons, Nat.zero_mul, List.drop_zero, List.take_append_of_le_length (by rw [hf]; exact Nat.le_refl _), List.take_of_length_le (by rw [hf]; exact Nat.le_refl _)]
  | y :: t, i + 1, x, h => by
    simp at h
    rw [List.flatMap_cons, Nat.add_mul, Nat.one_mul, Nat.add_comm, ← List.drop_drop, List.drop_left' (hf y)]
    exact flat2 f hf t i x h
theorem flat2_len {α : Type} (f : α → List Value) (hf : ∀ x, (f x).length = 2) : ∀ (l : List α), (l.flatMap f).length = l.length * 2
  | [] => rfl
  | y :: t => by rw [List.flatMap_cons, List.length_append, hf, flat2_len f hf t, List.length_cons]; omega
theorem trod_pair {w : World} {fuel : Nat} {x : Nat × Nat} (h : ((Lit.int .u64 (x.1 : Nat)).wf && (Lit.int .u64 (x.2 : Nat)).wf) = true) :
    DataW.trod (fun _ => ()) Tryz.prog w 0 (fun _ => true) false (fuel + 2) 224 (prCells x) = some (.agg [.lit (.int .u64 (x.1 : Nat)), .lit (.int .u64 (x.2 : Nat))], []) := by
  rw [Bool.and_eq_true] at h
  have c224 : Tryz.prog.cellsOf 224 = 2 := by kernel_rfl
  have c82 : Tryz.prog.cellsOf 82 = 1 := by kernel_rfl
  simp [DataW.trod, Tryz.underlying224, Tryz.underlying82, c224, c82, prCells, h.1, h.2]
def pdat (x : Nat × Nat) : DataW Unit := .agg [.lit (.int .u64 (x.1 : Nat)), .lit (.int .u64 (x.2 : Nat))]
theorem range_map {α β : Type} (F : α → β) (l : List α) (d : α) : ((List.range l.length).map fun i => F (l.getD i d)) = l.map F := by
  apply List.ext_getElem?
  intro i
  by_cases hi : i < l.length
  · simp [hi, List.getD]
  · simp [hi]
theorem wf_tab : ∀ x ∈ Go.Pinned.pow10Rows, ((Lit.int .u64 (x.1 : Nat)).wf && (Lit.int .u64 (x.2 : Nat)).wf) = true := by decide +kernel
theorem flat_nil {α β : Type} : ∀ (l : List α), (l.flatMap fun _ => ([] : List β)) = []
  | [] => rfl
  | _ :: t => by rw [List.flatMap_cons, flat_nil t]; rfl
theorem trod_tab (w : World) : DataW.trod (fun _ => ()) Tryz.prog w 0 (fun _ => true) false 3 225 (Go.Pinned.pow10Rows.flatMap prCells) = some (Go.Pinned.pow10Tab, []) := by
  have c224 : Tryz.prog.cellsOf 224 = 2 := by kernel_rfl
  have c225 : Tryz.prog.cellsOf 225 = 1392 := by kernel_rfl
  have hl := tab_len
  have hlen : (Go.Pinned.pow10Rows.flatMap prCells).length = 1392 := by rw [flat2_len prCells (fun _ => rfl), hl]
  have hm : (List.range 696).mapM (fun i => DataW.trod (fun _ => ()) Tryz.prog w 0 (fun _ => true) false 2 224 (((Go.Pinned.pow10Rows.flatMap prCells).drop (i * 2)).take 2)) = some ((List.range 696).map fun i => (pdat (Go.Pinned.pow10Rows.getD i (0, 0)), ([] : List MemPlace))) := by
    refine mapM_someR _ _ _ fun i hi => ?_
    have hi' := List.mem_range.1 hi
    have hx := get_at (l := Go.Pinned.pow10Rows) (k := i) (by omega) (0, 0)
    rw [flat2 prCells (fun _ => rfl) _ i _ hx]
    exact trod_pair (fuel := 0) (wf_tab _ (List.mem_of_getElem? hx))
  unfold DataW.trod
  simp only [Tryz.underlying225, c225, c224]
  rw [if_pos hlen, hm, Option.map_some, List.map_map]
  congr 1
/-- The variables' cells and what they lead to. -/
noncomputable def laidWorld (os : Os) : World :=
  let N := (World.settled Tryz.prog os).heap.size
  let w0 := World.holding Tryz.prog os ⟨#[
    .cells ((List.range 9).map fun k => Value.int .i64 ((pwt k : Nat) : Int)).toArray 3,
    .cells ((List.range 23).map fun k => Value.float .f64 (fpt k)).toArray 38,
    .cells #[.float .f32 1065353216, .float .f32 1092616192, .float .f32 1120403456, .float .f32 1148846080, .float .f32 1176256512, .float .f32 1203982336, .float .f32 1232348160, .float .f32 1259902592, .float .f32 1287568416, .float .f32 1315859240, .float .f32 1343554297] 168,
    .cells (Go.Pinned.cheatRows.flatMap chCells).toArray 235,
    .cells #[.string ⟨#[118, 97, 108, 117, 101, 32, 111, 117, 116, 32, 111, 102, 32, 114, 97, 110, 103, 101]⟩] 201,
    .cells #[.string ⟨#[105, 110, 118, 97, 108, 105, 100, 32, 115, 121, 110, 116, 97, 120]⟩] 201,
    .cells #[.string ⟨#[69, 79, 70]⟩] 201,
    .cells #[.string ⟨#[98, 121, 116, 101, 115, 46, 66, 117, 102, 102, 101, 114, 58, 32, 116, 111, 111, 32, 108, 97, 114, 103, 101]⟩] 201], #[], []⟩
  let put (h : Array Obj) (g : Nat) (cs : Array Value) : Array Obj := h.modify g fun
    | .cells _ t frozen => .cells cs t frozen
    | o => o
  let h1 := put w0.heap 1 #[.string ⟨#[117, 110, 101, 120, 112, 101, 99, 116, 101, 100, 32, 69, 79, 70]⟩]
  let h2 := put h1 2 #[.iface 199 (.pointer (some ⟨N + 6, 0, none⟩))]
  let h3 := put h2 3 (Go.Pinned.utf8FirstZ.map fun (n : Nat) => Value.int .u8 (n : Int)).toArray
  let h4 := put h3 4 (([128, 191, 160, 191, 128, 159, 144, 191, 128, 143, 0, 0, 0, 0, 0, 0, 0, 0, 0, 0, 0, 0, 0, 0, 0, 0, 0, 0, 0, 0, 0, 0] : List Int).map fun n => Value.int .u8 n).toArray
  let h5 := put h4 5 #[.iface 199 (.pointer (some ⟨N + 7, 0, none⟩))]
  let h6 := put h5 6 #[.iface 199 (.pointer (some ⟨N + 5, 0, none⟩))]
  let h7 := put h6 7 #[.iface 199 (.pointer (some ⟨N + 4, 0, none⟩))]
  let h8 := put h7 8 #[.int .u64 23, .int .u64 8, .int .i64 (-127)]
  let h9 := put h8 9 #[.bool true]
  let h10 := put h9 10 #[.int .u64 52, .int .u64 11, .int .i64 (-1023)]
  let h11 := put h10 11 #[.slice (some ⟨N + 2, 0, none⟩) 11 11]
  let h12 := put h11 12 #[.slice (some ⟨N, 0, none⟩) 9 9]
  let h13 := put h12 13 #[.slice (some ⟨N + 1, 0, none⟩) 23 23]
  let h14 := put h13 14 (Go.Pinned.pow10Rows.flatMap prCells).toArray
  let h15 := put h14 15 #[.slice (some ⟨N + 3, 0, none⟩) 61 61]
  let h16 := put h15 16 ((List.range 20).map fun k => Value.int .u64 ((10 ^ k : Nat) : Int)).toArray
  let h17 := put h16 17 (([0, 1, 28, 2, 29, 14, 24, 3, 30, 22, 20, 15, 25, 17, 4, 8, 31, 27, 13, 23, 21, 19, 16, 7, 26, 12, 18, 6, 11, 5, 10, 9] : List Int).map fun n => Value.int .u8 n).toArray
  let h18 := put h17 18 (([0, 1, 56, 2, 57, 49, 28, 3, 61, 58, 42, 50, 38, 29, 17, 4, 62, 47, 59, 36, 45, 43, 51, 22, 53, 39, 33, 30, 24, 18, 12, 5, 63, 55, 48, 27, 60, 41, 37, 16, 46, 35, 44, 21, 52, 32, 23, 11, 54, 26, 40, 15, 34, 20, 31, 10, 25, 14, 19, 9, 13, 8, 7, 6] : List Int).map fun n => Value.int .u8 n).toArray
  { w0 with heap := h18 }
noncomputable abbrev N0 : Nat := (World.settled Tryz.prog default).heap.size
noncomputable abbrev memW (os : Os) (args : Array Value) : World := ((laidWorld os).forCall (fun _ _ => 0) ⟨#[], args, []⟩).memory
theorem prc_int : ∀ x ∈ Go.Pinned.pow10Rows.flatMap prCells, ∃ n, x = Value.int .u64 n := by
  intro x hx
  obtain ⟨r, -, hr⟩ := List.mem_flatMap.1 hx
  rcases List.mem_cons.1 hr with rfl | hr
  · exact ⟨_, rfl⟩
  · rw [List.mem_singleton.1 hr]; exact ⟨_, rfl⟩
theorem heap14 (os : Os) (args : Array Value) : (memW os args).heap[14]? = some (.cells (Go.Pinned.pow10Rows.flatMap prCells).toArray 225 (0, 0)) := by kernel_rfl
theorem pieceC (os : Os) (args : Array Value) : LaidIn Tryz.prog (memW os args) [("internal/strconv.pow10Tab", Rows.laid_internal_strconv_pow10Tab)] [14] := by
  have hh := heap14 os args
  have hv : (memW os args).var? Tryz.prog "internal/strconv.pow10Tab" = some (Go.Pinned.pow10Rows.flatMap prCells).toArray := by
    have hg : Tryz.prog.globalNamed "internal/strconv.pow10Tab" = some 14 := by kernel_rfl
    unfold World.var?
    rw [hg, Option.bind_some, hh]
  refine LaidIn.one (g := 14) (t := 225) (p := []) [14] (by kernel_rfl) (by kernel_rfl) hv (trod_tab _) ?_ ?_ ?_
  · rw [List.append_nil]; exact rowP_nodup _ _
  · rw [List.append_nil]
    intro b off hp
    obtain ⟨i, hi, e⟩ := MemPlace.mem_row.1 hp
    cases e
    refine ⟨⟨_, _, hh⟩, fun u v hc => ?_⟩
    rw [cell_of_heap hh, List.getElem?_toArray] at hc
    obtain ⟨n, hn⟩ := prc_int _ (List.mem_of_getElem? hc)
    cases hn
  · intro x hx
    rw [List.append_nil] at hx
    obtain ⟨i, _, rfl⟩ := MemPlace.mem_row.1 hx
    exact List.mem_singleton.2 rfl
theorem pieceB (os : Os) (args : Array Value) : LaidIn Tryz.prog (memW os args) [("internal/strconv.leftcheats", Rows.laid_internal_strconv_leftcheats)] [15, N0 + 3] :=
  LaidIn.of_run _ 8 (by kernel_rfl) (by kernel_rfl) (by kernel_rfl) (by kernel_rfl)
theorem pieceD (os : Os) (args : Array Value) : LaidIn Tryz.prog (memW os args) [("unicode/utf8.first", Rows.laid_unicode_utf8_first)] [3] :=
  LaidIn.of_run _ 8 (by kernel_rfl) (by kernel_rfl) (by kernel_rfl) (by kernel_rfl)
theorem pieceA (os : Os) (args : Array Value) : LaidIn Tryz.prog (memW os args) (Rows.fnPointBodyRow.laid.take 15) [17, 18, 8, 10, 9, 12, N0, 13, N0 + 1, 11, N0 + 2, 16, 4, 7, N0 + 4, 6, N0 + 5, 2, N0 + 6, 5, N0 + 7, 1] :=
  LaidIn.of_run _ 8 (by kernel_rfl) (by kernel_rfl) (by kernel_rfl) (by kernel_rfl)
theorem laid_met (os : Os) (args : Array Value) : laidMet Tryz.prog Rows.fnPointBodyRow.laid (memW os args) :=
  ((((pieceA os args).append (pieceB os args) (by kernel_rfl)).append (pieceC os args) (by kernel_rfl)).append (pieceD os args) (by kernel_rfl)).met
theorem laid_metH (os : Os) (args : Array Value) : laidMetH Tryz.prog Rows.fnPointBodyRow.laid (memW os args) := by
  have h : (Rows.fnPointBodyRow.laid.filter fun x => x.2.handleName?.isSome) = [] := by kernel_rfl
  unfold laidMetH
  rw [h]
  exact laid_met os args
end Go.Proofs.YtadpeebcombjnaaGreatDoor
