/- impl.ReadPointBody: the door's answer as a plain geometry. -/
import Derived.Test.YtadpeebcombjnaaGreatDoorLGLI
namespace Go.Proofs.YtadpeebcombjnaaGreatDoor
open Go Go.Proofs Go.RowKit Go.Lib
set_option maxRecDepth 100000
theorem info51 : (Tryz.prog.info? 51).map (·.size) = some 6 := by kernel_rfl
theorem info33 : (Tryz.prog.info? 33).map (·.size) = some 4 := by kernel_rfl
theorem results_c {fn : Func} {p : Tmp} {ty : TypeId} (h : fn.results = #[.cell p ty]) (tmps : Array Value) (w : World) (g : Nat) (t : TypeId) (cs : Array Value) (fr : Nat × Nat) {fs : _}
    (hp : tmps.getD p undef = .pointer (some ⟨g, 0, none⟩)) (hg : w.heap[g]? = some (.cells cs t fr))
    (hu : Tryz.prog.underlying ty = some (.struct fs)) (hi : (Tryz.prog.info? ty).map (·.size) = some cs.size) :
    (results fn tmps).run Tryz.prog w = .ok (.agg cs) w := results_cell_row h tmps w g t cs fr (.struct fs) hp hg hu rfl hi
theorem empty_any (d : Int) (w : World) : Calls Tryz.prog 15 #[.int .u8 d] w fun e w' => Below w.heap.size w w' ∧ e = .returned (.agg #[.float .f64 0, .float .f64 0, .float .f64 0, .float .f64 0, .int .u8 d, .bool false]) := by
  have hst := store_f
  go_enter Tryz.func15, Tryz.ntmps15
  go_wp2_with fail
  refine bodyPost_ret (results_c rfl _ _ w.heap.size 51 _ (0, 0) rfl (Row.new w _ 51) Tryz.underlying51 info51) rfl ?_
  exact ⟨(Below.refl _ w).alloc (Nat.le_refl _) _, rfl⟩
theorem new_any (y0 y1 y2 y3 : Nat) (d : Int) (w : World) : Calls Tryz.prog 16 #[.agg #[.float .f64 y0, .float .f64 y1, .float .f64 y2, .float .f64 y3, .int .u8 d]] w fun e w' => Below w.heap.size w w' ∧ e = .returned (.agg #[.float .f64 y0, .float .f64 y1, .float .f64 y2, .float .f64 y3, .int .u8 d, .bool true]) := by
  have hst := store_f
  go_enter Tryz.func16, Tryz.ntmps16
  go_wp2_with fail
  refine bodyPost_ret (results_c rfl _ _ (w.heap.size + 1) 51 _ (0, 0) rfl (heap_alloc2_new w _ _) Tryz.underlying51 info51) rfl ?_
  exact ⟨((Below.refl _ w).alloc (Nat.le_refl _) _).alloc (by simp) _, rfl⟩
theorem ctype_any (y0 y1 y2 y3 : Nat) (d : Int) (b : Bool) (w : World) : Calls Tryz.prog 26 #[.agg #[.float .f64 y0, .float .f64 y1, .float .f64 y2, .float .f64 y3, .int .u8 d, .bool b]] w fun e w' => Below w.heap.size w w' ∧ e = .returned (.int .u8 d) := by
  have hst := store_f
  go_enter Tryz.func26, Tryz.ntmps26
  go_wp2_with fail
  go_ret
  exact ⟨(Below.refl _ w).alloc (Nat.le_refl _) _, rfl⟩
theorem coo_any (y0 y1 y2 y3 : Nat) (d : Int) (b : Bool) (w : World) : Calls Tryz.prog 27 #[.agg #[.float .f64 y0, .float .f64 y1, .float .f64 y2, .float .f64 y3, .int .u8 d, .bool b]] w fun e w' => Below w.heap.size w w' ∧ e = .returned (.tuple #[.agg #[.float .f64 y0, .float .f64 y1, .float .f64 y2, .float .f64 y3, .int .u8 d], .bool b]) := by
  have hst := store_f
  obtain ⟨V, hV⟩ : ∃ V, w.heap.size = V := ⟨_, rfl⟩
  obtain ⟨W, hW⟩ : ∃ W, (w.alloc (.cells #[.float .f64 y0, .float .f64 y1, .float .f64 y2, .float .f64 y3, .int .u8 d, .bool b] 51)).alloc (.cells #[.float .f64 0, .float .f64 0, .float .f64 0, .float .f64 0, .int .u8 0] 43) = W := ⟨_, rfl⟩
  have hr1 : Row W V #[.float .f64 y0, .float .f64 y1, .float .f64 y2, .float .f64 y3, .int .u8 d, .bool b] 51 := by
    rw [← hW, ← hV]; exact (Row.new w _ 51).alloc _
  have hr2 : Row W (V + 1) #[.float .f64 0, .float .f64 0, .float .f64 0, .float .f64 0, .int .u8 0] 43 := by
    rw [← hW, ← hV]; exact heap_alloc2_new w _ _
  have hB : Below V w W := by
    rw [← hW, ← hV]; exact ((Below.refl _ w).alloc (Nat.le_refl _) _).alloc (by simp) _
  have p0 : W.cell? ⟨V, 0, none⟩ = some (.float .f64 y0) := hr1.cell rfl
  have p1 : W.cell? ⟨V, 1, none⟩ = some (.float .f64 y1) := hr1.cell rfl
  have p2 : W.cell? ⟨V, 2, none⟩ = some (.float .f64 y2) := hr1.cell rfl
  have p3 : W.cell? ⟨V, 3, none⟩ = some (.float .f64 y3) := hr1.cell rfl
  have p4 : W.cell? ⟨V, 4, none⟩ = some (.int .u8 d) := hr1.cell rfl
  have p5 : W.cell? ⟨V, 5, none⟩ = some (.bool b) := hr1.cell rfl
  have pf := hr1.frozen
  have q0 : W.cell? ⟨V + 1, 0, none⟩ = some (.float .f64 0) := hr2.cell rfl
  have q1 : W.cell? ⟨V + 1, 1, none⟩ = some (.float .f64 0) := hr2.cell rfl
  have q2 : W.cell? ⟨V + 1, 2, none⟩ = some (.float .f64 0) := hr2.cell rfl
  have q3 : W.cell? ⟨V + 1, 3, none⟩ = some (.float .f64 0) := hr2.cell rfl
  have q4 : W.cell? ⟨V + 1, 4, none⟩ = some (.int .u8 0) := hr2.cell rfl
  have qf := hr2.frozen
  have HR2 := Lib.hid hr2
  have HB := Lib.hid hB
  clear hr1 hr2 hB
  go_enter Tryz.func27, Tryz.ntmps27
  go_wp2_with fail

  clear hW
  go_region
  go_wp2_with fail
  have hend : Row (((((W.setCell ⟨V + 1, 0, none⟩ (.float .f64 y0)).setCell ⟨V + 1, 1, none⟩ (.float .f64 y1)).setCell ⟨V + 1, 2, none⟩ (.float .f64 y2)).setCell ⟨V + 1, 3, none⟩ (.float .f64 y3)).setCell ⟨V + 1, 4, none⟩ (.int .u8 d)) (V + 1) #[.float .f64 y0, .float .f64 y1, .float .f64 y2, .float .f64 y3, .int .u8 d] 43 := (((((HR2.out.set 0 (.float .f64 y0)).set 1 (.float .f64 y1)).set 2 (.float .f64 y2)).set 3 (.float .f64 y3)).set 4 (.int .u8 d))
  have h : Below V w (((((W.setCell ⟨V + 1, 0, none⟩ (.float .f64 y0)).setCell ⟨V + 1, 1, none⟩ (.float .f64 y1)).setCell ⟨V + 1, 2, none⟩ (.float .f64 y2)).setCell ⟨V + 1, 3, none⟩ (.float .f64 y3)).setCell ⟨V + 1, 4, none⟩ (.int .u8 d)) := (((((HB.out.setCell (p := ⟨V + 1, 0, none⟩) (Nat.le_succ V) (.float .f64 y0)).setCell (p := ⟨V + 1, 1, none⟩) (Nat.le_succ V) (.float .f64 y1)).setCell (p := ⟨V + 1, 2, none⟩) (Nat.le_succ V) (.float .f64 y2)).setCell (p := ⟨V + 1, 3, none⟩) (Nat.le_succ V) (.float .f64 y3)).setCell (p := ⟨V + 1, 4, none⟩) (Nat.le_succ V) (.int .u8 d))
  generalize (((((W.setCell ⟨V + 1, 0, none⟩ (.float .f64 y0)).setCell ⟨V + 1, 1, none⟩ (.float .f64 y1)).setCell ⟨V + 1, 2, none⟩ (.float .f64 y2)).setCell ⟨V + 1, 3, none⟩ (.float .f64 y3)).setCell ⟨V + 1, 4, none⟩ (.int .u8 d)) = W5 at hend h ⊢
  have hend' : Row W5.drew (V + 1) #[.float .f64 y0, .float .f64 y1, .float .f64 y2, .float .f64 y3, .int .u8 d] 43 := hend
  have h' : Below V w W5.drew := ⟨h.os, h.tape, h.output, h.size, h.block⟩
  clear h hend HR2 HB
  generalize W5.drew = W6 at hend' h' ⊢
  refine bodyPost_ret (results_ct rfl _ _ (V + 1) 43 _ (0, 0) rfl hend' Tryz.underlying43 info43) rfl ?_
  exact ⟨hV ▸ h', rfl⟩
theorem low_row {N g : Nat} {w w' : World} {C : Array Value} {t : TypeId} (hb : Below N w w') (hg : g < N) (h : Row w g C t) : Row w' g C t := (hb.block g hg).trans h
theorem info38 : (Tryz.prog.info? 38).map (fun i => (i.zero, i.size, i.bytes)) = some (some (.float .f64 0), 1, 8) := by kernel_rfl
theorem f_append {ops : Array Oper} {rest : List Oper} {o : Oper} {a : Act} {Q : Exit → Act → World → Prop} {wr : World} {B n : Nat} {v : Value} {xs : List Value} (hgd : o.guard = none) (s x : Operand)
    (ho : o.op = .call { callee := .builtin .append, args := #[s, x], argTypes := #[30, 30] }) (hown : wr.ownsRow B 38 1 v n xs) (hn : n ≤ 1000) (hB : B ≤ wr.heap.size) (g m : Nat) (C : Array Value) (hg : Row wr g C 38) (hm : C.size = m) (hm2 : m ≤ 1000) (hc : ∀ u ∈ C.toList, u.oneCell' = true)
    (hs : a.eval s = v) (hx : a.eval x = .slice (some ⟨g, 0, none⟩) m m)
    (h : ∀ v' w', w'.ownsRow B 38 1 v' (n + m) (xs ++ C.toList) → wr.grownBy w' v.ownBlock → wpList Tryz.prog ops Q rest (a.put o.dst v') w') :
    wpList Tryz.prog ops Q (o :: rest) a wr := by
  obtain ⟨i0, hi, hz0, hz1, hz2⟩ := info_parts info38
  refine wpList_append_own _ hgd s x 30 ho B 38 i0 _ 1 8 Tryz.underlying30 hi hz0 hz1 hz2 rfl (by decide) v n xs hs hown ⟨g, 0, none⟩ m m C.toList hx (by simp [hm]) (fun j u hj => ?_) hc (by unfold maxLen; omega) (by omega) hB (fun v' w' ha hb _ => h v' w' ha hb)
  have e : (⟨g, 0, none⟩ : Addr).add j = ⟨g, j, none⟩ := by unfold Addr.add; split <;> simp_all
  rw [e]
  exact hg.cell (by rw [← Array.getElem?_toList]; exact hj)
/-- A point's numbers in their order. -/
def fl (x : Nat) : Value := .float .f64 x
def numsOf (d y0 y1 y2 y3 : Nat) : List Nat := [y0, y1] ++ (if d3 d then [y2] else []) ++ (if dm d then [y3] else [])
def PlainPost (d y0 y1 y2 y3 : Nat) (b : Bool) (w : World) (e : Ending) (w' : World) : Prop :=
  Below w.heap.size w w' ∧ ∃ v xs, e = .returned (.agg #[.int .i64 1, .int .i64 (d : Int), v, .slice none 0 0]) ∧ xs = (if b then numsOf d y0 y1 y2 y3 else []) ∧ w'.ownsRow w.heap.size 38 1 v xs.length (xs.map fl)
theorem own_alloc_nil (w : World) (B : Nat) : w.ownsRow B 38 1 (.slice none 0 0) 0 [] := ⟨rfl, .inl ⟨rfl, rfl⟩⟩
/-- What plainPoint holds while it gathers the numbers. -/
structure GS (V : Nat) (w0 : World) (d y0 y1 y2 y3 : Nat) (P3 P4 : Nat) (w : World) (v : Value) (xs : List Nat) : Prop where
  bel : Below V w0 w
  r1 : Row w (V + 1) #[.int .i64 0, .int .i64 0, .slice none 0 0, .slice none 0 0] 33
  r3 : Row w P3 #[.int .i64 1, .int .i64 (d : Int), v, .slice none 0 0] 33
  r4 : Row w P4 #[.float .f64 y0, .float .f64 y1, .float .f64 y2, .float .f64 y3, .int .u8 (d : Int)] 43
  own : w.ownsRow V 38 1 v xs.length (xs.map fl)
  lt : V + 1 < P3 ∧ P3 < P4
  len : xs.length ≤ 4
theorem fl_one (ys : List Nat) : ∀ u ∈ ys.map fl, u.oneCell' = true := by
  intro u hu
  obtain ⟨y, _, rfl⟩ := List.mem_map.1 hu
  rfl
theorem own_slice {w : World} {B n : Nat} {v : Value} {xs : List Value} (h : w.ownsRow B 38 1 v n xs) : ∃ a l c, v = .slice a l c := by
  rcases h.2 with ⟨rfl, _⟩ | ⟨g, cap, cur, rfl, _⟩
  · exact ⟨_, _, _, rfl⟩
  · exact ⟨_, _, _, rfl⟩
theorem own_block_ne {w : World} {V n g : Nat} {v : Value} {xs : List Value} {C : Array Value} {t : TypeId} (h : w.ownsRow V 38 1 v n xs) (hr : Row w g C t) (ht : t ≠ 38) : v.ownBlock ≠ some g := by
  rcases h.2 with ⟨rfl, _⟩ | ⟨k, cap, cur, rfl, hg, hh, _⟩
  · simp [Value.ownBlock]
  · simp only [Value.ownBlock]
    intro e
    obtain rfl := Option.some.inj e
    have e := hh.symm.trans hr
    injection e with e
    injection e with _ e2
    exact ht e2.symm
theorem grown_row {w w' : World} {row : Option Nat} {g : Nat} {C : Array Value} {t : TypeId} (h : w.grownBy w' row) (hr : Row w g C t) (hne : row ≠ some g) : Row w' g C t :=
  (h.block g (lt_of_row hr) (fun e => hne e.symm)).trans hr
theorem own_ge' {w : World} {B n : Nat} {v : Value} {xs : List Value} (h : w.ownsRow B 38 1 v n xs) : ∀ k, v.ownBlock = some k → B ≤ k := by
  intro b hbk
  rcases h.2 with ⟨rfl, _⟩ | ⟨g, cap, cur, rfl, hg, _⟩
  · simp [Value.ownBlock] at hbk
  · simp only [Value.ownBlock, Option.some.injEq] at hbk; omega
/-- One append of floats that lie in a new block, and the store of the slice. -/
theorem GS.push {V : Nat} {w0 : World} {d y0 y1 y2 y3 P3 P4 : Nat} {w w' : World} {v v' : Value} {xs ys : List Nat} {o : Obj} (h : GS V w0 d y0 y1 y2 y3 P3 P4 w v xs) (hg : (w.alloc o).grownBy w' v.ownBlock)
    (hown : w'.ownsRow V 38 1 v' (xs.length + ys.length) (xs.map fl ++ ys.map fl)) (hl : xs.length + ys.length ≤ 4) : GS V w0 d y0 y1 y2 y3 P3 P4 (w'.setCell ⟨P3, 2, none⟩ v') v' (xs ++ ys) := by
  have h3 := own_block_ne h.own h.r3 (by decide)
  have h1 := own_block_ne h.own h.r1 (by decide)
  have h4 := own_block_ne h.own h.r4 (by decide)
  have hlt := h.lt
  have r3' := grown_row hg (h.r3.alloc o) h3
  have hVs : V ≤ w.heap.size := by have := lt_of_row h.r1; omega
  have hb : Below V w0 w' := (h.bel.alloc hVs o).trans (Mod.below_of (S := fun k => v.ownBlock = some k) ⟨hg.os, hg.tape, hg.output, hg.size, fun k hk hs => hg.block k hk (fun e => hs e.symm)⟩ (by simp; omega) (fun k hk hs => by have := own_ge' h.own k hs; omega))
  refine ⟨hb.setCell (p := ⟨P3, 2, none⟩) (show V ≤ P3 by omega) v', (grown_row hg (h.r1.alloc o) h1).far (show V + 1 ≠ P3 by omega) v', r3'.set 2 v', (grown_row hg (h.r4.alloc o) h4).far (show P4 ≠ P3 by omega) v', ?_, h.lt, by rw [List.length_append]; exact hl⟩
  rw [List.length_append, List.map_append]
  obtain ⟨e1, e2⟩ := hown
  refine ⟨e1, ?_⟩
  rcases e2 with e2 | ⟨g, cap, cur, hv, hgB, hh, r⟩
  · exact .inl e2
  · refine .inr ⟨g, cap, cur, hv, hgB, (set_oth _ _ _ _ _ ?_).trans hh, r⟩
    rintro rfl
    have e := hh.symm.trans r3'
    injection e with e
    injection e with _ e2
    exact absurd e2 (by decide)
set_option maxHeartbeats 4000000 in
theorem plain_any (y0 y1 y2 y3 d : Nat) (hd : d < 4) (b : Bool) (w : World) : Calls Tryz.prog 14 #[.agg #[.float .f64 y0, .float .f64 y1, .float .f64 y2, .float .f64 y3, .int .u8 (d : Int), .bool b]] w (PlainPost d y0 y1 y2 y3 b w) := by
  have hst := store_f
  obtain ⟨V, hV⟩ : ∃ V, w.heap.size = V := ⟨_, rfl⟩
  obtain ⟨W, hW⟩ : ∃ W, (w.alloc (.cells #[.float .f64 y0, .float .f64 y1, .float .f64 y2, .float .f64 y3, .int .u8 (d : Int), .bool b] 51)).alloc (.cells #[.int .i64 0, .int .i64 0, .slice none 0 0, .slice none 0 0] 33) = W := ⟨_, rfl⟩
  have hr0 : Row W V #[.float .f64 y0, .float .f64 y1, .float .f64 y2, .float .f64 y3, .int .u8 (d : Int), .bool b] 51 := by
    rw [← hW, ← hV]; exact (Row.new w _ 51).alloc _
  have hr1 : Row W (V + 1) #[.int .i64 0, .int .i64 0, .slice none 0 0, .slice none 0 0] 33 := by
    rw [← hW, ← hV]; exact heap_alloc2_new w _ _
  have hB : Below V w W := by
    rw [← hW, ← hV]; exact ((Below.refl _ w).alloc (Nat.le_refl _) _).alloc (by simp) _
  have hsW : W.heap.size = V + 2 := by rw [← hW, ← hV]; simp
  have hi3 := fun wx => is3_any d hd wx
  have him := fun wx => ism_any d hd wx
  obtain ⟨q3, hq3⟩ : ∃ q, d3 d = q := ⟨_, rfl⟩
  obtain ⟨qm, hqm⟩ : ∃ q, dm d = q := ⟨_, rfl⟩
  rw [hq3] at hi3
  rw [hqm] at him
  have HQ3 := Lib.hid hq3
  have HQM := Lib.hid hqm
  have hd4 : (d : Int) < 4 := by omega
  clear hq3 hqm
  have p0 : W.cell? ⟨V, 0, none⟩ = some (.float .f64 y0) := hr0.cell rfl
  have p1 : W.cell? ⟨V, 1, none⟩ = some (.float .f64 y1) := hr0.cell rfl
  have p2 : W.cell? ⟨V, 2, none⟩ = some (.float .f64 y2) := hr0.cell rfl
  have p3 : W.cell? ⟨V, 3, none⟩ = some (.float .f64 y3) := hr0.cell rfl
  have p4 : W.cell? ⟨V, 4, none⟩ = some (.int .u8 (d : Int)) := hr0.cell rfl
  have p5 : W.cell? ⟨V, 5, none⟩ = some (.bool b) := hr0.cell rfl
  have pf := hr0.frozen
  have H := Lib.hid (And.intro hr0 (And.intro hr1 (And.intro hB hsW)))
  clear hr0 hr1 hB hsW
  go_enter Tryz.func14, Tryz.ntmps14
  go_wp2_with fail
  go_at_call 26
  refine (ctype_any y0 y1 y2 y3 (d : Int) b W).mono ?_
  clear p0 p1 p2 p3 p4 p5 pf
  rintro e w1 ⟨hb1, rfl⟩
  obtain ⟨hr0, hr1, hB, hsW⟩ := H.out
  rw [hsW] at hb1
  have hr0 := low_row hb1 (by omega) hr0
  have hr1 := low_row hb1 (by omega) hr1
  obtain ⟨P3, hP3⟩ : ∃ P3, w1.heap.size = P3 := ⟨_, rfl⟩
  have hP3V : V + 2 ≤ P3 := by have := hb1.size; rw [hsW] at this; omega
  have hb1' : Below V w w1 := hB.trans ⟨hb1.os, hb1.tape, hb1.output, hb1.size, fun k hk => hb1.block k (by omega)⟩
  have hr0 := hr0.alloc (.cells #[.int .i64 1, .int .i64 (d : Int), .slice none 0 0, .slice none 0 0] 33)
  have hr1 := hr1.alloc (.cells #[.int .i64 1, .int .i64 (d : Int), .slice none 0 0, .slice none 0 0] 33)
  have hr3 : Row (w1.alloc (.cells #[.int .i64 1, .int .i64 (d : Int), .slice none 0 0, .slice none 0 0] 33)) P3 #[.int .i64 1, .int .i64 (d : Int), .slice none 0 0, .slice none 0 0] 33 := hP3 ▸ Row.new w1 _ 33
  have hb2 : Below V w (w1.alloc (.cells #[.int .i64 1, .int .i64 (d : Int), .slice none 0 0, .slice none 0 0] 33)) := hb1'.alloc (by omega) _
  have hs2 : (w1.alloc (.cells #[.int .i64 1, .int .i64 (d : Int), .slice none 0 0, .slice none 0 0] 33)).heap.size = P3 + 1 := by simp [hP3]
  have p0 : (w1.alloc (.cells #[.int .i64 1, .int .i64 (d : Int), .slice none 0 0, .slice none 0 0] 33)).cell? ⟨V, 0, none⟩ = some (.float .f64 y0) := hr0.cell rfl
  have p1 : (w1.alloc (.cells #[.int .i64 1, .int .i64 (d : Int), .slice none 0 0, .slice none 0 0] 33)).cell? ⟨V, 1, none⟩ = some (.float .f64 y1) := hr0.cell rfl
  have p2 : (w1.alloc (.cells #[.int .i64 1, .int .i64 (d : Int), .slice none 0 0, .slice none 0 0] 33)).cell? ⟨V, 2, none⟩ = some (.float .f64 y2) := hr0.cell rfl
  have p3 : (w1.alloc (.cells #[.int .i64 1, .int .i64 (d : Int), .slice none 0 0, .slice none 0 0] 33)).cell? ⟨V, 3, none⟩ = some (.float .f64 y3) := hr0.cell rfl
  have p4 : (w1.alloc (.cells #[.int .i64 1, .int .i64 (d : Int), .slice none 0 0, .slice none 0 0] 33)).cell? ⟨V, 4, none⟩ = some (.int .u8 (d : Int)) := hr0.cell rfl
  have p5 : (w1.alloc (.cells #[.int .i64 1, .int .i64 (d : Int), .slice none 0 0, .slice none 0 0] 33)).cell? ⟨V, 5, none⟩ = some (.bool b) := hr0.cell rfl
  have pf := hr0.frozen
  have H2 := Lib.hid (And.intro hr1 (And.intro hr3 (And.intro hb2 hs2)))
  clear hr0 hr1 hr3 hb2 hs2 H hb1 hb1' hB hsW hW
  go_wp2_with fail
  generalize w1.alloc (.cells #[.int .i64 1, .int .i64 (d : Int), .slice none 0 0, .slice none 0 0] 33) = W2 at *
  go_at_call 27
  refine (coo_any y0 y1 y2 y3 (d : Int) b W2).mono ?_
  rintro e w3 ⟨hb3, rfl⟩
  clear p0 p1 p2 p3 p4 p5 pf
  obtain ⟨hr1, hr3, hb2, hs2⟩ := H2.out
  rw [hs2] at hb3
  have hr1 := (low_row hb3 (by omega) hr1).alloc (.cells #[.float .f64 y0, .float .f64 y1, .float .f64 y2, .float .f64 y3, .int .u8 (d : Int)] 43)
  have hr3 := (low_row hb3 (by omega) hr3).alloc (.cells #[.float .f64 y0, .float .f64 y1, .float .f64 y2, .float .f64 y3, .int .u8 (d : Int)] 43)
  obtain ⟨P4, hP4⟩ : ∃ P4, w3.heap.size = P4 := ⟨_, rfl⟩
  have hP34 : P3 < P4 := by have := hb3.size; rw [hs2] at this; omega
  have hr4 : Row (w3.alloc (.cells #[.float .f64 y0, .float .f64 y1, .float .f64 y2, .float .f64 y3, .int .u8 (d : Int)] 43)) P4 #[.float .f64 y0, .float .f64 y1, .float .f64 y2, .float .f64 y3, .int .u8 (d : Int)] 43 := hP4 ▸ Row.new w3 _ 43
  have hb4 : Below V w (w3.alloc (.cells #[.float .f64 y0, .float .f64 y1, .float .f64 y2, .float .f64 y3, .int .u8 (d : Int)] 43)) := (hb2.trans ⟨hb3.os, hb3.tape, hb3.output, hb3.size, fun k hk => hb3.block k (by omega)⟩).alloc (by omega) _
  have hGS : GS V w d y0 y1 y2 y3 P3 P4 (w3.alloc (.cells #[.float .f64 y0, .float .f64 y1, .float .f64 y2, .float .f64 y3, .int .u8 (d : Int)] 43)) (.slice none 0 0) [] := ⟨hb4, hr1, hr3, hr4, own_alloc_nil _ _, ⟨by omega, hP34⟩, by decide⟩
  have HG := Lib.hid hGS
  have hn1 : ¬ P3 = P4 := by omega
  have hn2 : ¬ P4 = P3 := by omega
  have hn3 : ¬ V + 1 = P3 := by omega
  have hn4 : ¬ P3 = V + 1 := by omega
  clear hr1 hr3 hr4 hb2 hb3 hb4 hs2 hGS H2
  have hr3 := HG.out.r3
  have a0 : (w3.alloc (.cells #[.float .f64 y0, .float .f64 y1, .float .f64 y2, .float .f64 y3, .int .u8 (d : Int)] 43)).cell? ⟨P3, 0, none⟩ = some (.int .i64 1) := hr3.cell rfl
  have a1 : (w3.alloc (.cells #[.float .f64 y0, .float .f64 y1, .float .f64 y2, .float .f64 y3, .int .u8 (d : Int)] 43)).cell? ⟨P3, 1, none⟩ = some (.int .i64 (d : Int)) := hr3.cell rfl
  have a2 : (w3.alloc (.cells #[.float .f64 y0, .float .f64 y1, .float .f64 y2, .float .f64 y3, .int .u8 (d : Int)] 43)).cell? ⟨P3, 2, none⟩ = some (.slice none 0 0) := hr3.cell rfl
  have a3 : (w3.alloc (.cells #[.float .f64 y0, .float .f64 y1, .float .f64 y2, .float .f64 y3, .int .u8 (d : Int)] 43)).cell? ⟨P3, 3, none⟩ = some (.slice none 0 0) := hr3.cell rfl
  have af := hr3.frozen
  have hr4 := HG.out.r4
  have b0 : (w3.alloc (.cells #[.float .f64 y0, .float .f64 y1, .float .f64 y2, .float .f64 y3, .int .u8 (d : Int)] 43)).cell? ⟨P4, 0, none⟩ = some (.float .f64 y0) := hr4.cell rfl
  have b1 : (w3.alloc (.cells #[.float .f64 y0, .float .f64 y1, .float .f64 y2, .float .f64 y3, .int .u8 (d : Int)] 43)).cell? ⟨P4, 1, none⟩ = some (.float .f64 y1) := hr4.cell rfl
  have b2 : (w3.alloc (.cells #[.float .f64 y0, .float .f64 y1, .float .f64 y2, .float .f64 y3, .int .u8 (d : Int)] 43)).cell? ⟨P4, 2, none⟩ = some (.float .f64 y2) := hr4.cell rfl
  have b3 : (w3.alloc (.cells #[.float .f64 y0, .float .f64 y1, .float .f64 y2, .float .f64 y3, .int .u8 (d : Int)] 43)).cell? ⟨P4, 3, none⟩ = some (.float .f64 y3) := hr4.cell rfl
  have b4 : (w3.alloc (.cells #[.float .f64 y0, .float .f64 y1, .float .f64 y2, .float .f64 y3, .int .u8 (d : Int)] 43)).cell? ⟨P4, 4, none⟩ = some (.int .u8 (d : Int)) := hr4.cell rfl
  have bf := hr4.frozen
  have hr1 := HG.out.r1
  have c0 : (w3.alloc (.cells #[.float .f64 y0, .float .f64 y1, .float .f64 y2, .float .f64 y3, .int .u8 (d : Int)] 43)).cell? ⟨(V + 1), 0, none⟩ = some (.int .i64 0) := hr1.cell rfl
  have c1 : (w3.alloc (.cells #[.float .f64 y0, .float .f64 y1, .float .f64 y2, .float .f64 y3, .int .u8 (d : Int)] 43)).cell? ⟨(V + 1), 1, none⟩ = some (.int .i64 0) := hr1.cell rfl
  have c2 : (w3.alloc (.cells #[.float .f64 y0, .float .f64 y1, .float .f64 y2, .float .f64 y3, .int .u8 (d : Int)] 43)).cell? ⟨(V + 1), 2, none⟩ = some (.slice none 0 0) := hr1.cell rfl
  have c3 : (w3.alloc (.cells #[.float .f64 y0, .float .f64 y1, .float .f64 y2, .float .f64 y3, .int .u8 (d : Int)] 43)).cell? ⟨(V + 1), 3, none⟩ = some (.slice none 0 0) := hr1.cell rfl
  have cf := hr1.frozen
  clear hr1 hr3 hr4
  cases b with
  | false =>
    go_wp2_with (first | (go_at_call 28; refine (hi3 _).mono ?_; rintro _ _ ⟨rfl, rfl⟩) | (go_at_call 29; refine (him _).mono ?_; rintro _ _ ⟨rfl, rfl⟩))
    have hend := ((((HG.out.r1.set 0 (.int .i64 1)).set 1 (.int .i64 (d : Int))).set 2 (.slice none 0 0)).set 3 (.slice none 0 0))
    refine bodyPost_ret (results_c rfl _ _ (V + 1) 33 _ (0, 0) rfl hend Tryz.underlying33 info33) rfl ?_
    refine ⟨?_, _, [], rfl, ?_, ?_⟩
    · rw [hV]
      exact ((((HG.out.bel.setCell (p := ⟨V + 1, 0, none⟩) (Nat.le_succ V) (.int .i64 1)).setCell (p := ⟨V + 1, 1, none⟩) (Nat.le_succ V) (.int .i64 (d : Int))).setCell (p := ⟨V + 1, 2, none⟩) (Nat.le_succ V) (.slice none 0 0)).setCell (p := ⟨V + 1, 3, none⟩) (Nat.le_succ V) (.slice none 0 0))
    · rfl
    · rw [hV]
      have h0 := HG.out.own
      have hrr := HG.out.r1
      obtain ⟨e1, e2⟩ := h0
      refine ⟨e1, ?_⟩
      rcases e2 with e2 | ⟨g, cap, cur, hv, hgB, hh, r⟩
      · exact .inl e2
      · have hne : g ≠ V + 1 := by
          rintro rfl
          have e := hh.symm.trans hrr
          injection e with e
          injection e with _ e2
          exact absurd e2 (by decide)
        refine .inr ⟨g, cap, cur, hv, hgB, ?_, r⟩
        rw [set_oth _ _ _ _ _ hne, set_oth _ _ _ _ _ hne, set_oth _ _ _ _ _ hne, set_oth _ _ _ _ _ hne]
        exact hh
  | true =>
    go_upto_region 5 with (fail)
    generalize w3.alloc (.cells #[.float .f64 y0, .float .f64 y1, .float .f64 y2, .float .f64 y3, .int .u8 (d : Int)] 43) = W4 at *
    go_upto_region 6 with ((at_builtin; refine f_append rfl (.tmp 19) (.tmp 26) rfl (HG.out.own.alloc _) (by have := HG.out.len; omega) (by have := lt_of_row HG.out.r1; simp; omega) _ 2 #[.float .f64 y0, .float .f64 y1] (Row.new _ _ 38) rfl (by decide) (fun u hu => fl_one [y0, y1] u hu) rfl rfl ?_; intro v6 w6 hown6 hg6; obtain ⟨sa6, sl6, sc6, rfl⟩ := own_slice hown6; have hr3 := grown_row hg6 (HG.out.r3.alloc _) (own_block_ne HG.out.own HG.out.r3 (by decide)); have a0 := hr3.cell (j := 0) rfl; have hr4 := grown_row hg6 (HG.out.r4.alloc _) (own_block_ne HG.out.own HG.out.r4 (by decide)); have hx2 : w6.cell? ⟨P3, 2, none⟩ = _ := hr3.cell rfl; have hxf := hr3.frozen; clear hr3 hr4 a0))
    have hgs6 := HG.out.push (ys := [y0, y1]) hg6 hown6 (by simp)
    clear a0 a1 a2 a3 af b0 b1 b2 b3 b4 bf c0 c1 c2 c3 cf
    generalize w6.setCell ⟨P3, 2, none⟩ (.slice sa6 sl6 sc6) = U6 at *
    have HGn := Lib.hid hgs6
    clear hgs6 hg6 hown6 hx2 hxf HG
    have HG := HGn
    clear HGn
    have hr3 := HG.out.r3
    have a0 : U6.cell? ⟨P3, 0, none⟩ = some (.int .i64 1) := hr3.cell rfl
    have a1 : U6.cell? ⟨P3, 1, none⟩ = some (.int .i64 (d : Int)) := hr3.cell rfl
    have a2 : U6.cell? ⟨P3, 2, none⟩ = some (.slice sa6 sl6 sc6) := hr3.cell rfl
    have a3 : U6.cell? ⟨P3, 3, none⟩ = some (.slice none 0 0) := hr3.cell rfl
    have af := hr3.frozen
    have hr4 := HG.out.r4
    have b0 : U6.cell? ⟨P4, 0, none⟩ = some (.float .f64 y0) := hr4.cell rfl
    have b1 : U6.cell? ⟨P4, 1, none⟩ = some (.float .f64 y1) := hr4.cell rfl
    have b2 : U6.cell? ⟨P4, 2, none⟩ = some (.float .f64 y2) := hr4.cell rfl
    have b3 : U6.cell? ⟨P4, 3, none⟩ = some (.float .f64 y3) := hr4.cell rfl
    have b4 : U6.cell? ⟨P4, 4, none⟩ = some (.int .u8 (d : Int)) := hr4.cell rfl
    have bf := hr4.frozen
    have hr1 := HG.out.r1
    have c0 : U6.cell? ⟨(V + 1), 0, none⟩ = some (.int .i64 0) := hr1.cell rfl
    have c1 : U6.cell? ⟨(V + 1), 1, none⟩ = some (.int .i64 0) := hr1.cell rfl
    have c2 : U6.cell? ⟨(V + 1), 2, none⟩ = some (.slice none 0 0) := hr1.cell rfl
    have c3 : U6.cell? ⟨(V + 1), 3, none⟩ = some (.slice none 0 0) := hr1.cell rfl
    have cf := hr1.frozen
    clear hr1 hr3 hr4
    go_upto_if 31 with (first | (go_at_call 28; refine (hi3 _).mono ?_; rintro _ _ ⟨rfl, rfl⟩) | (go_at_call 29; refine (him _).mono ?_; rintro _ _ ⟨rfl, rfl⟩))
    cases q3 with
    | false =>
      cases qm with
      | false =>
        go_wp2_with (first | (go_at_call 28; refine (hi3 _).mono ?_; rintro _ _ ⟨rfl, rfl⟩) | (go_at_call 29; refine (him _).mono ?_; rintro _ _ ⟨rfl, rfl⟩))
        have hend := ((((HG.out.r1.set 0 (.int .i64 1)).set 1 (.int .i64 (d : Int))).set 2 (.slice sa6 sl6 sc6)).set 3 (.slice none 0 0))
        refine bodyPost_ret (results_c rfl _ _ (V + 1) 33 _ (0, 0) rfl hend Tryz.underlying33 info33) rfl ?_
        refine ⟨?_, _, ([] ++ [y0, y1]), rfl, ?_, ?_⟩
        · rw [hV]
          exact ((((HG.out.bel.setCell (p := ⟨V + 1, 0, none⟩) (Nat.le_succ V) (.int .i64 1)).setCell (p := ⟨V + 1, 1, none⟩) (Nat.le_succ V) (.int .i64 (d : Int))).setCell (p := ⟨V + 1, 2, none⟩) (Nat.le_succ V) (.slice sa6 sl6 sc6)).setCell (p := ⟨V + 1, 3, none⟩) (Nat.le_succ V) (.slice none 0 0))
        · exact (by unfold numsOf; rw [HQ3.out, HQM.out]; rfl)
        · rw [hV]
          have h0 := HG.out.own
          have hrr := HG.out.r1
          obtain ⟨e1, e2⟩ := h0
          refine ⟨e1, ?_⟩
          rcases e2 with e2 | ⟨g, cap, cur, hv, hgB, hh, r⟩
          · exact .inl e2
          · have hne : g ≠ V + 1 := by
              rintro rfl
              have e := hh.symm.trans hrr
              injection e with e
              injection e with _ e2
              exact absurd e2 (by decide)
            refine .inr ⟨g, cap, cur, hv, hgB, ?_, r⟩
            rw [set_oth _ _ _ _ _ hne, set_oth _ _ _ _ _ hne, set_oth _ _ _ _ _ hne, set_oth _ _ _ _ _ hne]
            exact hh
      | true =>
        go_upto_region 9 with (first | (go_at_call 28; refine (hi3 _).mono ?_; rintro _ _ ⟨rfl, rfl⟩) | (go_at_call 29; refine (him _).mono ?_; rintro _ _ ⟨rfl, rfl⟩))
        go_upto_region 10 with ((at_builtin; refine f_append rfl (.tmp 43) (.tmp 46) rfl (HG.out.own.alloc _) (by have := HG.out.len; omega) (by have := lt_of_row HG.out.r1; simp; omega) _ 1 #[.float .f64 y3] (Row.new _ _ 38) rfl (by decide) (fun u hu => fl_one [y3] u hu) rfl rfl ?_; intro v8 w8 hown8 hg8; obtain ⟨sa8, sl8, sc8, rfl⟩ := own_slice hown8; have hr3 := grown_row hg8 (HG.out.r3.alloc _) (own_block_ne HG.out.own HG.out.r3 (by decide)); have a0 := hr3.cell (j := 0) rfl; have hr4 := grown_row hg8 (HG.out.r4.alloc _) (own_block_ne HG.out.own HG.out.r4 (by decide)); have hx2 : w8.cell? ⟨P3, 2, none⟩ = _ := hr3.cell rfl; have hxf := hr3.frozen; clear hr3 hr4 a0))
        have hgs8 := HG.out.push (ys := [y3]) hg8 hown8 (by simp)
        clear a0 a1 a2 a3 af b0 b1 b2 b3 b4 bf c0 c1 c2 c3 cf
        generalize w8.setCell ⟨P3, 2, none⟩ (.slice sa8 sl8 sc8) = U8 at *
        have HGn := Lib.hid hgs8
        clear hgs8 hg8 hown8 hx2 hxf HG
        have HG := HGn
        clear HGn
        have hr3 := HG.out.r3
        have a0 : U8.cell? ⟨P3, 0, none⟩ = some (.int .i64 1) := hr3.cell rfl
        have a1 : U8.cell? ⟨P3, 1, none⟩ = some (.int .i64 (d : Int)) := hr3.cell rfl
        have a2 : U8.cell? ⟨P3, 2, none⟩ = some (.slice sa8 sl8 sc8) := hr3.cell rfl
        have a3 : U8.cell? ⟨P3, 3, none⟩ = some (.slice none 0 0) := hr3.cell rfl
        have af := hr3.frozen
        have hr4 := HG.out.r4
        have b0 : U8.cell? ⟨P4, 0, none⟩ = some (.float .f64 y0) := hr4.cell rfl
        have b1 : U8.cell? ⟨P4, 1, none⟩ = some (.float .f64 y1) := hr4.cell rfl
        have b2 : U8.cell? ⟨P4, 2, none⟩ = some (.float .f64 y2) := hr4.cell rfl
        have b3 : U8.cell? ⟨P4, 3, none⟩ = some (.float .f64 y3) := hr4.cell rfl
        have b4 : U8.cell? ⟨P4, 4, none⟩ = some (.int .u8 (d : Int)) := hr4.cell rfl
        have bf := hr4.frozen
        have hr1 := HG.out.r1
        have c0 : U8.cell? ⟨(V + 1), 0, none⟩ = some (.int .i64 0) := hr1.cell rfl
        have c1 : U8.cell? ⟨(V + 1), 1, none⟩ = some (.int .i64 0) := hr1.cell rfl
        have c2 : U8.cell? ⟨(V + 1), 2, none⟩ = some (.slice none 0 0) := hr1.cell rfl
        have c3 : U8.cell? ⟨(V + 1), 3, none⟩ = some (.slice none 0 0) := hr1.cell rfl
        have cf := hr1.frozen
        clear hr1 hr3 hr4
        go_wp2_with (first | (go_at_call 28; refine (hi3 _).mono ?_; rintro _ _ ⟨rfl, rfl⟩) | (go_at_call 29; refine (him _).mono ?_; rintro _ _ ⟨rfl, rfl⟩))
        have hend := ((((HG.out.r1.set 0 (.int .i64 1)).set 1 (.int .i64 (d : Int))).set 2 (.slice sa8 sl8 sc8)).set 3 (.slice none 0 0))
        refine bodyPost_ret (results_c rfl _ _ (V + 1) 33 _ (0, 0) rfl hend Tryz.underlying33 info33) rfl ?_
        refine ⟨?_, _, (([] ++ [y0, y1]) ++ [y3]), rfl, ?_, ?_⟩
        · rw [hV]
          exact ((((HG.out.bel.setCell (p := ⟨V + 1, 0, none⟩) (Nat.le_succ V) (.int .i64 1)).setCell (p := ⟨V + 1, 1, none⟩) (Nat.le_succ V) (.int .i64 (d : Int))).setCell (p := ⟨V + 1, 2, none⟩) (Nat.le_succ V) (.slice sa8 sl8 sc8)).setCell (p := ⟨V + 1, 3, none⟩) (Nat.le_succ V) (.slice none 0 0))
        · exact (by unfold numsOf; rw [HQ3.out, HQM.out]; rfl)
        · rw [hV]
          have h0 := HG.out.own
          have hrr := HG.out.r1
          obtain ⟨e1, e2⟩ := h0
          refine ⟨e1, ?_⟩
          rcases e2 with e2 | ⟨g, cap, cur, hv, hgB, hh, r⟩
          · exact .inl e2
          · have hne : g ≠ V + 1 := by
              rintro rfl
              have e := hh.symm.trans hrr
              injection e with e
              injection e with _ e2
              exact absurd e2 (by decide)
            refine .inr ⟨g, cap, cur, hv, hgB, ?_, r⟩
            rw [set_oth _ _ _ _ _ hne, set_oth _ _ _ _ _ hne, set_oth _ _ _ _ _ hne, set_oth _ _ _ _ _ hne]
            exact hh
    | true =>
      go_upto_region 7 with (fail)
      go_upto_region 8 with ((at_builtin; refine f_append rfl (.tmp 33) (.tmp 36) rfl (HG.out.own.alloc _) (by have := HG.out.len; omega) (by have := lt_of_row HG.out.r1; simp; omega) _ 1 #[.float .f64 y2] (Row.new _ _ 38) rfl (by decide) (fun u hu => fl_one [y2] u hu) rfl rfl ?_; intro v7 w7 hown7 hg7; obtain ⟨sa7, sl7, sc7, rfl⟩ := own_slice hown7; have hr3 := grown_row hg7 (HG.out.r3.alloc _) (own_block_ne HG.out.own HG.out.r3 (by decide)); have a0 := hr3.cell (j := 0) rfl; have hr4 := grown_row hg7 (HG.out.r4.alloc _) (own_block_ne HG.out.own HG.out.r4 (by decide)); have hx2 : w7.cell? ⟨P3, 2, none⟩ = _ := hr3.cell rfl; have hxf := hr3.frozen; clear hr3 hr4 a0))
      have hgs7 := HG.out.push (ys := [y2]) hg7 hown7 (by simp)
      clear a0 a1 a2 a3 af b0 b1 b2 b3 b4 bf c0 c1 c2 c3 cf
      generalize w7.setCell ⟨P3, 2, none⟩ (.slice sa7 sl7 sc7) = U7 at *
      have HGn := Lib.hid hgs7
      clear hgs7 hg7 hown7 hx2 hxf HG
      have HG := HGn
      clear HGn
      have hr3 := HG.out.r3
      have a0 : U7.cell? ⟨P3, 0, none⟩ = some (.int .i64 1) := hr3.cell rfl
      have a1 : U7.cell? ⟨P3, 1, none⟩ = some (.int .i64 (d : Int)) := hr3.cell rfl
      have a2 : U7.cell? ⟨P3, 2, none⟩ = some (.slice sa7 sl7 sc7) := hr3.cell rfl
      have a3 : U7.cell? ⟨P3, 3, none⟩ = some (.slice none 0 0) := hr3.cell rfl
      have af := hr3.frozen
      have hr4 := HG.out.r4
      have b0 : U7.cell? ⟨P4, 0, none⟩ = some (.float .f64 y0) := hr4.cell rfl
      have b1 : U7.cell? ⟨P4, 1, none⟩ = some (.float .f64 y1) := hr4.cell rfl
      have b2 : U7.cell? ⟨P4, 2, none⟩ = some (.float .f64 y2) := hr4.cell rfl
      have b3 : U7.cell? ⟨P4, 3, none⟩ = some (.float .f64 y3) := hr4.cell rfl
      have b4 : U7.cell? ⟨P4, 4, none⟩ = some (.int .u8 (d : Int)) := hr4.cell rfl
      have bf := hr4.frozen
      have hr1 := HG.out.r1
      have c0 : U7.cell? ⟨(V + 1), 0, none⟩ = some (.int .i64 0) := hr1.cell rfl
      have c1 : U7.cell? ⟨(V + 1), 1, none⟩ = some (.int .i64 0) := hr1.cell rfl
      have c2 : U7.cell? ⟨(V + 1), 2, none⟩ = some (.slice none 0 0) := hr1.cell rfl
      have c3 : U7.cell? ⟨(V + 1), 3, none⟩ = some (.slice none 0 0) := hr1.cell rfl
      have cf := hr1.frozen
      clear hr1 hr3 hr4
      cases qm with
      | false =>
        go_wp2_with (first | (go_at_call 28; refine (hi3 _).mono ?_; rintro _ _ ⟨rfl, rfl⟩) | (go_at_call 29; refine (him _).mono ?_; rintro _ _ ⟨rfl, rfl⟩))
        have hend := ((((HG.out.r1.set 0 (.int .i64 1)).set 1 (.int .i64 (d : Int))).set 2 (.slice sa7 sl7 sc7)).set 3 (.slice none 0 0))
        refine bodyPost_ret (results_c rfl _ _ (V + 1) 33 _ (0, 0) rfl hend Tryz.underlying33 info33) rfl ?_
        refine ⟨?_, _, (([] ++ [y0, y1]) ++ [y2]), rfl, ?_, ?_⟩
        · rw [hV]
          exact ((((HG.out.bel.setCell (p := ⟨V + 1, 0, none⟩) (Nat.le_succ V) (.int .i64 1)).setCell (p := ⟨V + 1, 1, none⟩) (Nat.le_succ V) (.int .i64 (d : Int))).setCell (p := ⟨V + 1, 2, none⟩) (Nat.le_succ V) (.slice sa7 sl7 sc7)).setCell (p := ⟨V + 1, 3, none⟩) (Nat.le_succ V) (.slice none 0 0))
        · exact (by unfold numsOf; rw [HQ3.out, HQM.out]; rfl)
        · rw [hV]
          have h0 := HG.out.own
          have hrr := HG.out.r1
          obtain ⟨e1, e2⟩ := h0
          refine ⟨e1, ?_⟩
          rcases e2 with e2 | ⟨g, cap, cur, hv, hgB, hh, r⟩
          · exact .inl e2
          · have hne : g ≠ V + 1 := by
              rintro rfl
              have e := hh.symm.trans hrr
              injection e with e
              injection e with _ e2
              exact absurd e2 (by decide)
            refine .inr ⟨g, cap, cur, hv, hgB, ?_, r⟩
            rw [set_oth _ _ _ _ _ hne, set_oth _ _ _ _ _ hne, set_oth _ _ _ _ _ hne, set_oth _ _ _ _ _ hne]
            exact hh
      | true =>
        go_upto_region 9 with (first | (go_at_call 28; refine (hi3 _).mono ?_; rintro _ _ ⟨rfl, rfl⟩) | (go_at_call 29; refine (him _).mono ?_; rintro _ _ ⟨rfl, rfl⟩))
        go_upto_region 10 with ((at_builtin; refine f_append rfl (.tmp 43) (.tmp 46) rfl (HG.out.own.alloc _) (by have := HG.out.len; omega) (by have := lt_of_row HG.out.r1; simp; omega) _ 1 #[.float .f64 y3] (Row.new _ _ 38) rfl (by decide) (fun u hu => fl_one [y3] u hu) rfl rfl ?_; intro v8 w8 hown8 hg8; obtain ⟨sa8, sl8, sc8, rfl⟩ := own_slice hown8; have hr3 := grown_row hg8 (HG.out.r3.alloc _) (own_block_ne HG.out.own HG.out.r3 (by decide)); have a0 := hr3.cell (j := 0) rfl; have hr4 := grown_row hg8 (HG.out.r4.alloc _) (own_block_ne HG.out.own HG.out.r4 (by decide)); have hx2 : w8.cell? ⟨P3, 2, none⟩ = _ := hr3.cell rfl; have hxf := hr3.frozen; clear hr3 hr4 a0))
        have hgs8 := HG.out.push (ys := [y3]) hg8 hown8 (by simp)
        clear a0 a1 a2 a3 af b0 b1 b2 b3 b4 bf c0 c1 c2 c3 cf
        generalize w8.setCell ⟨P3, 2, none⟩ (.slice sa8 sl8 sc8) = U8 at *
        have HGn := Lib.hid hgs8
        clear hgs8 hg8 hown8 hx2 hxf HG
        have HG := HGn
        clear HGn
        have hr3 := HG.out.r3
        have a0 : U8.cell? ⟨P3, 0, none⟩ = some (.int .i64 1) := hr3.cell rfl
        have a1 : U8.cell? ⟨P3, 1, none⟩ = some (.int .i64 (d : Int)) := hr3.cell rfl
        have a2 : U8.cell? ⟨P3, 2, none⟩ = some (.slice sa8 sl8 sc8) := hr3.cell rfl
        have a3 : U8.cell? ⟨P3, 3, none⟩ = some (.slice none 0 0) := hr3.cell rfl
        have af := hr3.frozen
        have hr4 := HG.out.r4
        have b0 : U8.cell? ⟨P4, 0, none⟩ = some (.float .f64 y0) := hr4.cell rfl
        have b1 : U8.cell? ⟨P4, 1, none⟩ = some (.float .f64 y1) := hr4.cell rfl
        have b2 : U8.cell? ⟨P4, 2, none⟩ = some (.float .f64 y2) := hr4.cell rfl
        have b3 : U8.cell? ⟨P4, 3, none⟩ = some (.float .f64 y3) := hr4.cell rfl
        have b4 : U8.cell? ⟨P4, 4, none⟩ = some (.int .u8 (d : Int)) := hr4.cell rfl
        have bf := hr4.frozen
        have hr1 := HG.out.r1
        have c0 : U8.cell? ⟨(V + 1), 0, none⟩ = some (.int .i64 0) := hr1.cell rfl
        have c1 : U8.cell? ⟨(V + 1), 1, none⟩ = some (.int .i64 0) := hr1.cell rfl
        have c2 : U8.cell? ⟨(V + 1), 2, none⟩ = some (.slice none 0 0) := hr1.cell rfl
        have c3 : U8.cell? ⟨(V + 1), 3, none⟩ = some (.slice none 0 0) := hr1.cell rfl
        have cf := hr1.frozen
        clear hr1 hr3 hr4
        go_wp2_with (first | (go_at_call 28; refine (hi3 _).mono ?_; rintro _ _ ⟨rfl, rfl⟩) | (go_at_call 29; refine (him _).mono ?_; rintro _ _ ⟨rfl, rfl⟩))
        have hend := ((((HG.out.r1.set 0 (.int .i64 1)).set 1 (.int .i64 (d : Int))).set 2 (.slice sa8 sl8 sc8)).set 3 (.slice none 0 0))
        refine bodyPost_ret (results_c rfl _ _ (V + 1) 33 _ (0, 0) rfl hend Tryz.underlying33 info33) rfl ?_
        refine ⟨?_, _, ((([] ++ [y0, y1]) ++ [y2]) ++ [y3]), rfl, ?_, ?_⟩
        · rw [hV]
          exact ((((HG.out.bel.setCell (p := ⟨V + 1, 0, none⟩) (Nat.le_succ V) (.int .i64 1)).setCell (p := ⟨V + 1, 1, none⟩) (Nat.le_succ V) (.int .i64 (d : Int))).setCell (p := ⟨V + 1, 2, none⟩) (Nat.le_succ V) (.slice sa8 sl8 sc8)).setCell (p := ⟨V + 1, 3, none⟩) (Nat.le_succ V) (.slice none 0 0))
        · exact (by unfold numsOf; rw [HQ3.out, HQM.out]; rfl)
        · rw [hV]
          have h0 := HG.out.own
          have hrr := HG.out.r1
          obtain ⟨e1, e2⟩ := h0
          refine ⟨e1, ?_⟩
          rcases e2 with e2 | ⟨g, cap, cur, hv, hgB, hh, r⟩
          · exact .inl e2
          · have hne : g ≠ V + 1 := by
              rintro rfl
              have e := hh.symm.trans hrr
              injection e with e
              injection e with _ e2
              exact absurd e2 (by decide)
            refine .inr ⟨g, cap, cur, hv, hgB, ?_, r⟩
            rw [set_oth _ _ _ _ _ hne, set_oth _ _ _ _ _ hne, set_oth _ _ _ _ _ hne, set_oth _ _ _ _ _ hne]
            exact hh
end Go.Proofs.YtadpeebcombjnaaGreatDoor
