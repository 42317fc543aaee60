/- From the row's listed variables to what the walks ask. -/
import Derived.Test.YtadpeebcombjnaaGreatDoorHCHE
import Derived.Test.YtadpeebcombjnaaGreatDoorRows
import Derived.Lib.LaidU8
import Derived.Stop.LaidErr
namespace Go.Proofs.YtadpeebcombjnaaGreatDoor
open Go Go.Proofs Go.RowKit Go.Lib Go.ChangeShapes
set_option maxRecDepth 100000
section
variable {H : Type} {enc : TypeId × Value → H} {P : Program} {w : World} {base : Nat} {sp : Nat → Bool} {held : Bool}
theorem trod_flt {k : FloatKind} {fuel : Nat} {t : TypeId} {cs : List Value} {x : DataW H × List MemPlace} (ht : P.underlying t = some (.float k)) (h : DataW.trod enc P w base sp held fuel t cs = some x) : ∃ n, cs = [.float k n] ∧ x.1 = .lit (.float k n) := by
  cases fuel with
  | zero => simp [DataW.trod] at h
  | succ n =>
    unfold DataW.trod at h
    rw [ht] at h
    split at h <;> simp_all
    rw [← h.2]
theorem slice_elems {fuel : Nat} {t e : TypeId} {cs : List Value} {ds : List (DataW H)} {p : List MemPlace} (ht : P.underlying t = some (.slice e)) (h : DataW.trod enc P w base sp held fuel t cs = some (.slice ds [], p)) :
    ∃ (a : Addr) (cap : Nat), cs = [.slice (some a) ds.length cap] ∧ ∀ (i : Nat) (d : DataW H), ds[i]? = some d → ∃ ce fuel' q, w.cells? base (a.add (i * P.cellsOf e)) (P.cellsOf e) = some ce ∧ DataW.trod enc P w base sp held fuel' e ce = some (d, q) := by
  rcases DataW.trod_slice ht h with ⟨_, hx⟩ | ⟨a, len, cap, el, rs, m, rfl, hcs, hx, _, _, _, hel, helem, _⟩
  · cases hx
  have e0 := congrArg Prod.fst hx
  simp only [DataW.slice.injEq] at e0
  obtain ⟨rfl, -⟩ := e0
  refine ⟨a, cap, by rw [hcs, List.length_map, hel], fun i d hi => ?_⟩
  rw [List.getElem?_map] at hi
  obtain ⟨b, hb, rfl⟩ := Option.map_eq_some_iff.1 hi
  have hlt : i < el.length := (List.getElem?_eq_some_iff.1 hb).1
  have h1 := helem i (by omega)
  rw [hb] at h1
  obtain ⟨ce, hce, hte⟩ := Option.bind_eq_some_iff.1 h1
  exact ⟨ce, m, b.2, hce, hte⟩
theorem struct_elem {fuel : Nat} {t : TypeId} {fs : Array Field} {cs : List Value} {ds : List (DataW H)} {p : List MemPlace} (ht : P.underlying t = some (.struct fs)) (h : DataW.trod enc P w base sp held fuel t cs = some (.agg ds, p)) (i : Nat) {f : Field} {d : DataW H} (hf : fs[i]? = some f) (hd : ds[i]? = some d) :
    ∃ fuel' q, DataW.trod enc P w base sp held fuel' f.type ((cs.drop f.offset).take (P.cellsOf f.type)) = some (d, q) := by
  obtain ⟨xs, n, rfl, hx, _, _, hall⟩ := DataW.trod_struct ht h
  have e0 := congrArg Prod.fst hx
  simp only [DataW.agg.injEq] at e0
  subst e0
  rw [List.getElem?_map] at hd
  obtain ⟨b, hb, rfl⟩ := Option.map_eq_some_iff.1 hd
  exact ⟨n, b.2, by rw [hall i f hf, hb]⟩
theorem struct_one {fuel : Nat} {t : TypeId} {fs : Array Field} {cs : List Value} {ds : List (DataW H)} {p : List MemPlace} (ht : P.underlying t = some (.struct fs)) (h : DataW.trod enc P w base sp held fuel t cs = some (.agg ds, p)) (i : Nat) {ty off : Nat} {d : DataW H} (hf : (fs[i]?).map (fun f => (f.type, f.offset)) = some (ty, off)) (hd : ds[i]? = some d) (hc : P.cellsOf ty = 1) :
    ∃ fuel' q, DataW.trod enc P w base sp held fuel' ty ((cs.drop off).take 1) = some (d, q) := by
  obtain ⟨f, hf1, hf2⟩ := Option.map_eq_some_iff.1 hf
  simp only [Prod.mk.injEq] at hf2
  obtain ⟨rfl, rfl⟩ := hf2
  obtain ⟨f', q, hr⟩ := struct_elem ht h i hf1 hd
  rw [hc] at hr
  exact ⟨f', q, hr⟩
theorem get_at {α : Type} {l : List α} {k : Nat} (h : k < l.length) (d : α) : l[k]? = some (l.getD k d) := by
  rw [List.getElem?_eq_getElem h]
  simp [List.getD, List.getElem?_eq_getElem h]
theorem one_at {cs : List Value} {o : Nat} {v : Value} (h : (cs.drop o).take 1 = [v]) : cs[o]? = some v := by
  have := congrArg (·[0]?) h
  simpa [List.getElem?_take, List.getElem?_drop] using this
theorem int_elem {k : IntKind} {fuel : Nat} {t : TypeId} {cs : List Value} {z : Int} {q : List MemPlace} (ht : P.underlying t = some (.int k)) (h : DataW.trod enc P w base sp held fuel t cs = some (.lit (.int k z), q)) : cs = [.int k z] := by
  obtain ⟨n, hc, hx, _⟩ := DataW.trod_int ht h
  have := congrArg Prod.fst hx
  simp only [DataW.lit.injEq, Lit.int.injEq, true_and] at this
  rw [hc, this]
theorem flt_elem {k : FloatKind} {fuel : Nat} {t : TypeId} {cs : List Value} {z : Nat} {q : List MemPlace} (ht : P.underlying t = some (.float k)) (h : DataW.trod enc P w base sp held fuel t cs = some (.lit (.float k z), q)) : cs = [.float k z] := by
  obtain ⟨n, hc, hx⟩ := trod_flt ht h
  simp only [DataW.lit.injEq, Lit.float.injEq, true_and] at hx
  rw [hc, hx]
theorem str_elem {fuel : Nat} {t : TypeId} {cs : List Value} {z : List UInt8} {q : List MemPlace} (ht : P.underlying t = some .string) (h : DataW.trod enc P w base sp held fuel t cs = some (.lit (.string z), q)) : cs = [.string ⟨z.toArray⟩] := by
  obtain ⟨n, hc, hx, _⟩ := DataW.trod_string ht h
  have := congrArg Prod.fst hx
  simp only [DataW.lit.injEq, Lit.string.injEq] at this
  rw [hc, this]
end
/-- A variable's cells and how they read. -/
theorem reads_at {w : World} {n : String} {d : DataW Unit} {g : Nat} {t : TypeId} (hn : Tryz.prog.globalNamed n = some g) (hy : (Tryz.prog.globals[g]?).map (·.type) = some t) (h : VarReads Tryz.prog w n d) :
    ∃ cs fuel p, (∀ i, w.cell? ⟨g, i, none⟩ = cs[i]?) ∧ DataW.trod (fun _ => ()) Tryz.prog w 0 (fun _ => true) false fuel t cs = some (d, p) := by
  obtain ⟨g', t', cs, fuel, p, hg, hty, hvar, hd⟩ := h
  obtain rfl := Option.some.inj (hn.symm.trans hg)
  obtain rfl := Option.some.inj (hy.symm.trans hty)
  exact ⟨cs.toList, fuel, p, fun i => by rw [World.var?_cell hn hvar i, ← Array.getElem?_toList], hd⟩
theorem c_one {w : World} {a : Addr} {v : Value} (h : w.cells? 0 a 1 = some [v]) : w.cell? a = some v := by
  obtain ⟨_, _, h1⟩ := World.cells?_some h
  have := h1 0 (by decide)
  have e : a.add 0 = a := by cases a; simp [Addr.add]
  rw [e] at this
  exact this
theorem c_two {w : World} {a : Addr} {ce : List Value} (h : w.cells? 0 a 2 = some ce) : w.cell? a = ce[0]? ∧ w.cell? (a.add 1) = ce[1]? := by
  obtain ⟨_, _, h1⟩ := World.cells?_some h
  have e : a.add 0 = a := by cases a; simp [Addr.add]
  have := h1 0 (by decide)
  rw [e] at this
  exact ⟨this, h1 1 (by decide)⟩
theorem bare {w : World} {a : Addr} {v : Value} (h : w.cell? a = some v) : ∃ b o, a = ⟨b, o, none⟩ := by
  obtain ⟨b, o, s⟩ := a
  exact ⟨b, o, by rw [cell_spot h]⟩
theorem cell_lt {w : World} {b o : Nat} {v : Value} (h : w.cell? ⟨b, o, none⟩ = some v) : b < w.heap.size := block_lt_of_cell h
/-- A slice of one-cell elements. -/
theorem slice_ones {w : World} {n : String} {g : Nat} {t e : TypeId} {ds : List (DataW Unit)} (hn : Tryz.prog.globalNamed n = some g) (hy : (Tryz.prog.globals[g]?).map (·.type) = some t) (ht : Tryz.prog.underlying t = some (.slice e)) (hc : Tryz.prog.cellsOf e = 1)
    (V : Nat → Value) (hv : ∀ (i fuel : Nat) d q cs, ds[i]? = some d → DataW.trod (fun _ => ()) Tryz.prog w 0 (fun _ => true) false fuel e cs = some (d, q) → cs = [V i]) (h0 : 0 < ds.length) (h : VarReads Tryz.prog w n (.slice ds [])) :
    ∃ b o c : Nat, b < w.heap.size ∧ w.cell? ⟨g, 0, none⟩ = some (.slice (some ⟨b, o, none⟩) ds.length c) ∧ ∀ k, k < ds.length → w.cell? ⟨b, o + k, none⟩ = some (V k) := by
  obtain ⟨cs, fuel, p, hcell, hd⟩ := reads_at hn hy h
  obtain ⟨a, cap, rfl, hel⟩ := slice_elems ht hd
  have hall : ∀ k, k < ds.length → w.cell? (a.add k) = some (V k) := by
    intro k hk
    obtain ⟨ce, f, q, h1, h2⟩ := hel k ds[k] (List.getElem?_eq_getElem hk)
    rw [hc, Nat.mul_one] at h1
    rw [hv k f _ _ _ (List.getElem?_eq_getElem hk) h2] at h1
    exact c_one h1
  have h00 := hall 0 h0
  have e : a.add 0 = a := by cases a; simp [Addr.add]
  rw [e] at h00
  obtain ⟨b, o, rfl⟩ := bare h00
  exact ⟨b, o, cap, cell_lt h00, hcell 0, fun k hk => by have := hall k hk; rwa [Addr.add_lit] at this⟩
theorem pow_datum : (Rows.laid_internal_strconv_powtab : DataW Unit) = .slice ((List.range 9).map fun k => .lit (.int .i64 ((pwt k : Nat) : Int))) [] := by kernel_rfl
theorem fpow_datum : (Rows.laid_internal_strconv_float64pow10 : DataW Unit) = .slice ((List.range 23).map fun k => .lit (.float .f64 (fpt k))) [] := by kernel_rfl
theorem range_at {α : Type} {n i : Nat} {F : Nat → α} {d : α} (h : ((List.range n).map F)[i]? = some d) : d = F i := by
  rw [List.getElem?_map] at h
  obtain ⟨k, hk, rfl⟩ := Option.map_eq_some_iff.1 h
  rw [List.getElem?_range (by
    rcases Nat.lt_or_ge i n with h | h
    · exact h
    · rw [List.getElem?_eq_none (by rw [List.length_range]; exact h)] at hk; cases hk)] at hk
  rw [← Option.some.inj hk]
theorem powtab_of {w : World} (h : VarReads Tryz.prog w "internal/strconv.powtab" Rows.laid_internal_strconv_powtab) :
    ∃ b o c : Nat, b < w.heap.size ∧ w.cell? ⟨12, 0, none⟩ = some (.slice (some ⟨b, o, none⟩) 9 c) ∧ ∀ k, k ≤ 8 → w.cell? ⟨b, o + k, none⟩ = some (.int .i64 (pwt k : Nat)) := by
  rw [pow_datum] at h
  obtain ⟨b, o, c, h1, h2, h3⟩ := slice_ones (g := 12) (t := 219) (e := 3) (by kernel_rfl) (by kernel_rfl) Tryz.underlying219 (by kernel_rfl) (fun k => .int .i64 ((pwt k : Nat) : Int))
    (fun i fuel d q cs hd ht => by rw [range_at hd] at ht; exact int_elem Tryz.underlying3 ht) (by decide) h
  exact ⟨b, o, c, h1, h2, fun k hk => h3 k (by show k < 9; omega)⟩
theorem fpow_of {w : World} (h : VarReads Tryz.prog w "internal/strconv.float64pow10" Rows.laid_internal_strconv_float64pow10) :
    ∃ b o c : Nat, b < w.heap.size ∧ w.cell? ⟨13, 0, none⟩ = some (.slice (some ⟨b, o, none⟩) 23 c) ∧ ∀ k, k ≤ 22 → w.cell? ⟨b, o + k, none⟩ = some (.float .f64 (fpt k)) := by
  rw [fpow_datum] at h
  obtain ⟨b, o, c, h1, h2, h3⟩ := slice_ones (g := 13) (t := 30) (e := 38) (by kernel_rfl) (by kernel_rfl) Tryz.underlying30 (by kernel_rfl) (fun k => .float .f64 (fpt k))
    (fun i fuel d q cs hd ht => by rw [range_at hd] at ht; exact flt_elem Tryz.underlying38 ht) (by decide) h
  exact ⟨b, o, c, h1, h2, fun k hk => h3 k (by show k < 23; omega)⟩
theorem cheat_len : Go.Pinned.cheatRows.length = 61 := by decide +kernel
theorem tab_len : Go.Pinned.pow10Rows.length = 696 := by decide +kernel
theorem firstP_at : ∀ c : Fin 128, Go.Pinned.utf8FirstZ[c.val]? = some 240 := by decide +kernel
theorem cheats_of {w : World} (h : VarReads Tryz.prog w "internal/strconv.leftcheats" Go.Pinned.leftcheats) :
    ∃ b o c : Nat, b < w.heap.size ∧ w.cell? ⟨15, 0, none⟩ = some (.slice (some ⟨b, o, none⟩) 61 c) ∧ ∀ k, k ≤ 60 → w.cell? ⟨b, o + k * 2, none⟩ = some (.int .i64 (chD k : Nat)) ∧ w.cell? ⟨b, o + k * 2 + 1, none⟩ = some (.string ⟨(chS k).toArray⟩) := by
  obtain ⟨cs, fuel, p, hcell, hd⟩ := reads_at (g := 15) (t := 236) (by kernel_rfl) (by kernel_rfl) h
  unfold Go.Pinned.leftcheats at hd
  obtain ⟨a, cap, rfl, hel⟩ := slice_elems Tryz.underlying236 hd
  have c235 : Tryz.prog.cellsOf 235 = 2 := by kernel_rfl
  have c3 : Tryz.prog.cellsOf 3 = 1 := by kernel_rfl
  have c9 : Tryz.prog.cellsOf 9 = 1 := by kernel_rfl
  have hall : ∀ k, k ≤ 60 → w.cell? (a.add (k * 2)) = some (.int .i64 (chD k : Nat)) ∧ w.cell? ((a.add (k * 2)).add 1) = some (.string ⟨(chS k).toArray⟩) := by
    intro k hk
    have hl := cheat_len
    have hx := get_at (l := Go.Pinned.cheatRows) (k := k) (by omega) (0, [])
    obtain ⟨ce, f, q, h1, h2⟩ := hel k _ (by rw [List.getElem?_map, hx]; rfl)
    rw [c235] at h1
    obtain ⟨e1, e2⟩ := c_two h1
    obtain ⟨f1, q1, r1⟩ := struct_one Tryz.underlying235 h2 0 rfl rfl c3
    obtain ⟨f2, q2, r2⟩ := struct_one Tryz.underlying235 h2 1 rfl rfl c9
    have s1 := one_at (int_elem Tryz.underlying3 r1)
    have s2 := one_at (str_elem Tryz.underlying9 r2)
    exact ⟨e1.trans s1, e2.trans s2⟩
  have h00 := (hall 0 (by decide)).1
  have e : a.add (0 * 2) = a := by cases a; simp [Addr.add]
  rw [e] at h00
  obtain ⟨b, o, rfl⟩ := bare h00
  refine ⟨b, o, cap, cell_lt h00, ?_, fun k hk => ?_⟩
  · rw [hcell 0, List.length_map, cheat_len]
    rfl
  · have := hall k hk
    rw [Addr.add_lit, Addr.add_lit] at this
    exact this
theorem tab_of {w : World} (h : VarReads Tryz.prog w "internal/strconv.pow10Tab" Go.Pinned.pow10Tab) : ∀ k, k ≤ 695 → w.cell? ⟨14, k * 2, none⟩ = some (.int .u64 (tabH k : Nat)) ∧ w.cell? ⟨14, k * 2 + 1, none⟩ = some (.int .u64 (tabL k : Nat)) := by
  intro k hk
  obtain ⟨cs, fuel, p, hcell, hd⟩ := reads_at (g := 14) (t := 225) (by kernel_rfl) (by kernel_rfl) h
  unfold Go.Pinned.pow10Tab at hd
  have c224 : Tryz.prog.cellsOf 224 = 2 := by kernel_rfl
  have c82 : Tryz.prog.cellsOf 82 = 1 := by kernel_rfl
  have hl := tab_len
  obtain ⟨f, d, q, hdi, he⟩ := array_elem Tryz.underlying225 hd k (by omega)
  have hx := get_at (l := Go.Pinned.pow10Rows) (k := k) (by omega) (0, 0)
  rw [List.getElem?_map, hx] at hdi
  rw [← Option.some.inj hdi, c224] at he
  obtain ⟨f1, q1, r1⟩ := struct_one Tryz.underlying224 he 0 rfl rfl c82
  obtain ⟨f2, q2, r2⟩ := struct_one Tryz.underlying224 he 1 rfl rfl c82
  have s1 := one_at (int_elem Tryz.underlying82 r1)
  have s2 := one_at (int_elem Tryz.underlying82 r2)
  rw [hcell, hcell]
  constructor
  · rw [List.getElem?_take, if_pos (by decide), List.getElem?_drop] at s1
    exact s1
  · rw [List.getElem?_take, if_pos (by decide), List.getElem?_drop] at s2
    exact s2
theorem first_of {w : World} (h : VarReads Tryz.prog w "unicode/utf8.first" Go.Pinned.utf8First) : ∀ c : Nat, c < 128 → w.cell? ⟨3, c, none⟩ = some (.int .u8 240) := by
  intro c hc
  obtain ⟨cs, fuel, p, hcell, hd⟩ := reads_at (g := 3) (t := 162) (by kernel_rfl) (by kernel_rfl) h
  unfold Go.Pinned.utf8First Go.Pinned.numbers at hd
  have c5 : Tryz.prog.cellsOf 5 = 1 := by kernel_rfl
  obtain ⟨f, d, q, hdi, he⟩ := array_elem Tryz.underlying162 hd c (by omega)
  rw [List.getElem?_map, firstP_at ⟨c, hc⟩] at hdi
  rw [← Option.some.inj hdi, c5, Nat.mul_one] at he
  rw [hcell]
  exact one_at (int_elem Tryz.underlying5 he)
theorem info_of {w : World} (h : VarReads Tryz.prog w "internal/strconv.float64info" Rows.laid_internal_strconv_float64info) : w.cell? ⟨10, 0, none⟩ = some (.int .u64 52) ∧ w.cell? ⟨10, 1, none⟩ = some (.int .u64 11) ∧ w.cell? ⟨10, 2, none⟩ = some (.int .i64 (-1023)) := by
  obtain ⟨cs, fuel, p, hcell, hd⟩ := reads_at (g := 10) (t := 182) (by kernel_rfl) (by kernel_rfl) h
  unfold Rows.laid_internal_strconv_float64info at hd
  have c93 : Tryz.prog.cellsOf 93 = 1 := by kernel_rfl
  have c3 : Tryz.prog.cellsOf 3 = 1 := by kernel_rfl
  obtain ⟨f1, q1, r1⟩ := struct_one Tryz.underlying182 hd 0 rfl rfl c93
  obtain ⟨f2, q2, r2⟩ := struct_one Tryz.underlying182 hd 1 rfl rfl c93
  obtain ⟨f3, q3, r3⟩ := struct_one Tryz.underlying182 hd 2 rfl rfl c3
  rw [hcell, hcell, hcell]
  exact ⟨one_at (int_elem Tryz.underlying93 r1), one_at (int_elem Tryz.underlying93 r2), one_at (int_elem Tryz.underlying3 r3)⟩
theorem opt_of {w : World} (h : VarReads Tryz.prog w "internal/strconv.optimize" Rows.laid_internal_strconv_optimize) : w.cell? ⟨9, 0, none⟩ = some (.bool true) := by
  obtain ⟨cs, fuel, p, hcell, hd⟩ := reads_at (g := 9) (t := 4) (by kernel_rfl) (by kernel_rfl) h
  obtain ⟨b, rfl, hx⟩ := DataW.trod_bool Tryz.underlying4 hd
  have := congrArg Prod.fst hx
  unfold Rows.laid_internal_strconv_optimize at this
  simp only [DataW.lit.injEq, Lit.bool.injEq] at this
  rw [hcell, ← this]
  rfl
theorem wkt_of {w : World} (h : VarReads Tryz.prog w "pub-alidade/pub/simplefeatures/geom.wktUnexpectedEOF" Rows.laid_pub_alidade_pub_simplefeatures_geom_wktUnexpectedEOF) : ∃ x, w.cell? ⟨1, 0, none⟩ = some (.string x) := by
  obtain ⟨cs, fuel, p, hcell, hd⟩ := reads_at (g := 1) (t := 129) (by kernel_rfl) (by kernel_rfl) h
  unfold Rows.laid_pub_alidade_pub_simplefeatures_geom_wktUnexpectedEOF at hd
  have c9 : Tryz.prog.cellsOf 9 = 1 := by kernel_rfl
  obtain ⟨f1, q1, r1⟩ := struct_one Tryz.underlying129 hd 0 rfl rfl c9
  rw [hcell]
  exact ⟨_, one_at (str_elem Tryz.underlying9 r1)⟩
theorem star_e : "*" ++ "errors.errorString" = "*errors.errorString" := by decide
/-- The one row of that name. -/
theorem row199 (u : TypeId) (h : Tryz.prog.typeName? 3 u = some "*errors.errorString") : u = 199 :=
  typeName_ptr_named (nm := "errors.errorString") (by rw [star_e]; kernel_rfl) (by kernel_rfl) (by decide) u (by rw [star_e]; exact h)
/-- A listed sentinel. -/
theorem sentinel_of {w : World} {n : String} {text : List UInt8} {r : List (String × DataW Unit)} {g : Nat} (hn : Tryz.prog.globalNamed n = some g) (hy : (Tryz.prog.globals[g]?).map (·.type) = some 45) (h : laidMet Tryz.prog ((n, .iface "*errors.errorString" (.ptr (.agg [.lit (.string text)]))) :: r) w) (hl : text.length ≤ 1000) :
    ErrAt w.heap.size g w := by
  obtain ⟨a, s, h1, h2, h3, -⟩ := laid_sentinel h hn hy Tryz.underlying45 row199 Tryz.underlying199 Tryz.underlying201 rfl rfl Tryz.underlying9 (by kernel_rfl) (by kernel_rfl)
  obtain ⟨b, o, rfl⟩ := bare h2
  refine ⟨b, o, s, cell_lt h2, ?_, by rw [World.var?_cell hn h1 0]; rfl, h2⟩
  have : s.size = s.data.toList.length := rfl
  rw [this, h3]
  exact hl
/-- What the walks ask, from the row's listed variables. -/
theorem tabs_of {w : World} (h : laidMet Tryz.prog Rows.fnPointBodyRow.laid w) (hsz : 24 ≤ w.heap.size) : TX w.heap.size w ∧ Gl w ∧ ∃ x, w.cell? ⟨1, 0, none⟩ = some (.string x) := by
  have h' := h
  unfold Rows.fnPointBodyRow at h'
  dsimp only at h'
  have R := fun (n : String) (d : DataW Unit) (hm : (n, d) ∈ _) => laidMet.reads h' (n := n) (d := d) hm
  have e10 := h'.tail.tail.tail.tail.tail.tail.tail.tail.tail.tail
  have hr := sentinel_of (g := 7) (by kernel_rfl) (by kernel_rfl) e10 (by decide)
  have hs := sentinel_of (g := 6) (by kernel_rfl) (by kernel_rfl) e10.tail (by decide)
  have he := sentinel_of (g := 2) (by kernel_rfl) (by kernel_rfl) e10.tail.tail (by decide)
  have r3 := laidMet.reads h' (n := "internal/strconv.float64info") (.tail _ (.tail _ (.tail _ (.head _))))
  have r4 := laidMet.reads h' (n := "internal/strconv.optimize") (.tail _ (.tail _ (.tail _ (.tail _ (.head _)))))
  have r5 := laidMet.reads h' (n := "internal/strconv.powtab") (.tail _ (.tail _ (.tail _ (.tail _ (.tail _ (.head _))))))
  have r6 := laidMet.reads h' (n := "internal/strconv.float64pow10") (.tail _ (.tail _ (.tail _ (.tail _ (.tail _ (.tail _ (.head _)))))))
  have e14 := e10.tail.tail.tail.tail
  have r14 := laidMet.reads e14 (.head _)
  have r15 := laidMet.reads e14 (.tail _ (.head _))
  have r16 := laidMet.reads e14 (.tail _ (.tail _ (.head _)))
  have r17 := laidMet.reads e14 (.tail _ (.tail _ (.tail _ (.head _))))
  obtain ⟨b7, o7, x7, s1, s2, s3, s4⟩ := hr
  obtain ⟨b6, o6, x6, t1, t2, t3, t4⟩ := hs
  refine ⟨⟨⟨hsz, cheats_of r15, powtab_of r5, fpow_of r6, tab_of r16, opt_of r4, info_of r3, ⟨b6, o6, x6, t1, t3, t4⟩, ⟨b7, o7, x7, s1, s3, s4⟩⟩, ⟨b6, o6, x6, t1, t2, t3, t4⟩, ⟨b7, o7, x7, s1, s2, s3, s4⟩⟩, ⟨first_of r17, ?_⟩, wkt_of r14⟩
  obtain ⟨b, o, x, -, -, u3, -⟩ := he
  exact ⟨_, u3⟩
end Go.Proofs.YtadpeebcombjnaaGreatDoor
