/- The reference's New of a point. -/
import Derived.Test.YtadpeebcombjnaaGreatDoorSHSJ
import Derived.Deep.RegionHeld3
import Derived.Deep.RegionLaw
import Derived.Deep.AppendLies
namespace Go.Proofs.YtadpeebcombjnaaGreatDoor
open Go Go.Proofs Go.RowKit Go.Lib
set_option maxRecDepth 100000
theorem add_block (g j : Nat) : ((⟨g, 0, none⟩ : Addr).add j).block = g := by unfold Addr.add; split <;> simp_all
structure NT (d V n g6 cap6 : Nat) (xs : List Nat) (w w8 : World) : Prop where
  mod : Mod (fun _ => False) w w8
  row1 : Row w8 (V + 1) #[.int .i64 0, .int .i64 0, .slice none 0 0, .slice none 0 0] 33
  row2 : Row w8 (V + 1 + 1) #[.int .i64 1, .int .i64 (d : Int), .slice (some ⟨g6, 0, none⟩) n cap6, .slice none 0 0] 33
  own : w8.ownsRow V 38 1 (.slice (some ⟨g6, 0, none⟩) n cap6) n (xs.map fl)
theorem new_tail {d V n g6 cap6 : Nat} {xs : List Nat} {w W w6 : World} (hV : w.heap.size = V) (hM : Mod (fun _ => False) w W) (_ : W.heap.size = V + 3) (hr1 : Row W (V + 1) #[.int .i64 0, .int .i64 0, .slice none 0 0, .slice none 0 0] 33) (hr2 : Row w6 (V + 1 + 1) #[.int .i64 1, .int .i64 (d : Int), .slice none 0 0, .slice none 0 0] 33)
    (hown : w6.ownsRow V 38 1 (.slice (some ⟨g6, 0, none⟩) (0 + n) cap6) (0 + n) ([] ++ xs.map fl)) (hg : W.drew.grownBy w6 (Value.slice none 0 0).ownBlock) (_ : (Value.slice none 0 0).ownBlock = some g6 ∨ g6 = W.drew.heap.size) :
    NT d V n g6 cap6 xs w (w6.setCell ⟨V + 1 + 1, 2, none⟩ (.slice (some ⟨g6, 0, none⟩) n cap6)) := by
  rw [Nat.zero_add, List.nil_append] at hown
  have hm6 : Mod (fun _ => False) W w6 := ⟨hg.os, hg.tape, hg.output, hg.size, fun k hk _ => hg.block k hk (by intro e; cases e)⟩
  have hs6 := hm6.size
  refine ⟨(hM.trans hm6 (fun _ _ h => h)).setCell (p := ⟨V + 1 + 1, 2, none⟩) (fun h => absurd h (by show ¬ V + 1 + 1 < w.heap.size; omega)) _, (hr1.keep hm6 (fun h => h)).far (p := ⟨V + 1 + 1, 2, none⟩) (show V + 1 ≠ V + 1 + 1 by omega) _, hr2.set 2 _, ?_⟩
  exact own_far_cells hown hr2 (by decide) (fun k hk => heap_setCell_other _ _ _ _ hk)
def NewPost (d : Nat) (xs : List Nat) (w : World) (e : Ending) (w' : World) : Prop := Below w.heap.size w w' ∧
  ∃ v, e = .returned (.agg #[.int .i64 1, .int .i64 (d : Int), v, .slice none 0 0]) ∧ w'.ownsRow w.heap.size 38 1 v xs.length (xs.map fl)
theorem and3 (d : Nat) (hd : d < 4) : bits BinOp.and IntKind.i64 (d : Int) 3 = (d : Int) := by
  have : ∀ n : Fin 4, bits BinOp.and IntKind.i64 (n.val : Int) 3 = (n.val : Int) := by decide
  exact this ⟨d, hd⟩
set_option maxHeartbeats 8000000 in
theorem newE_any {w : World} {d : Nat} (hd : d < 4) (_ : True) : Calls Tryz.prog 20 #[.agg #[.int .i64 1, .int .i64 (d : Int), .slice none 0 0, .slice none 0 0]] w (NewPost d [] w) := by
  have hst := store_f
  have hbt := and3 d hd
  have hwd : 2 ≤ wid d ∧ wid d ≤ 4 := by unfold wid; split <;> split <;> omega
  have hd' : (d : Int) < 4 := by omega
  obtain ⟨V, hV⟩ : ∃ V, w.heap.size = V := ⟨_, rfl⟩
  have hrow0 : Row (((w.alloc (.cells #[.int .i64 1, .int .i64 (d : Int), .slice none 0 0, .slice none 0 0] 33)).alloc (.cells #[.int .i64 0, .int .i64 0, .slice none 0 0, .slice none 0 0] 33)).alloc (.cells #[.int .i64 1, .int .i64 (d : Int), .slice none 0 0, .slice none 0 0] 33)) V #[.int .i64 1, .int .i64 (d : Int), .slice none 0 0, .slice none 0 0] 33 := by rw [← hV]; exact ((Row.new w _ 33).alloc _).alloc _
  have hrow1 : Row (((w.alloc (.cells #[.int .i64 1, .int .i64 (d : Int), .slice none 0 0, .slice none 0 0] 33)).alloc (.cells #[.int .i64 0, .int .i64 0, .slice none 0 0, .slice none 0 0] 33)).alloc (.cells #[.int .i64 1, .int .i64 (d : Int), .slice none 0 0, .slice none 0 0] 33)) (V + 1) #[.int .i64 0, .int .i64 0, .slice none 0 0, .slice none 0 0] 33 := by rw [← hV]; exact Row.alloc (heap_alloc2_new w _ _) _
  have hrow2 : Row (((w.alloc (.cells #[.int .i64 1, .int .i64 (d : Int), .slice none 0 0, .slice none 0 0] 33)).alloc (.cells #[.int .i64 0, .int .i64 0, .slice none 0 0, .slice none 0 0] 33)).alloc (.cells #[.int .i64 1, .int .i64 (d : Int), .slice none 0 0, .slice none 0 0] 33)) (V + 1 + 1) #[.int .i64 1, .int .i64 (d : Int), .slice none 0 0, .slice none 0 0] 33 := by
    have e : V + 1 + 1 = ((w.alloc (.cells #[.int .i64 1, .int .i64 (d : Int), .slice none 0 0, .slice none 0 0] 33)).alloc (.cells #[.int .i64 0, .int .i64 0, .slice none 0 0, .slice none 0 0] 33)).heap.size := by simp [hV]
    rw [e]; exact Row.new _ _ 33
  have hmod : Mod (fun _ => False) w (((w.alloc (.cells #[.int .i64 1, .int .i64 (d : Int), .slice none 0 0, .slice none 0 0] 33)).alloc (.cells #[.int .i64 0, .int .i64 0, .slice none 0 0, .slice none 0 0] 33)).alloc (.cells #[.int .i64 1, .int .i64 (d : Int), .slice none 0 0, .slice none 0 0] 33)) := (((Mod.refl _ w).alloc _).alloc _).alloc _
  have hsz : (((w.alloc (.cells #[.int .i64 1, .int .i64 (d : Int), .slice none 0 0, .slice none 0 0] 33)).alloc (.cells #[.int .i64 0, .int .i64 0, .slice none 0 0, .slice none 0 0] 33)).alloc (.cells #[.int .i64 1, .int .i64 (d : Int), .slice none 0 0, .slice none 0 0] 33)).heap.size = V + 3 := by simp [hV]
  have HROW0 := Lib.hid hrow0
  have HROW1 := Lib.hid hrow1
  have HROW2 := Lib.hid hrow2
  have HM := Lib.hid hmod
  have HSZ := Lib.hid hsz
  have y0 : (((w.alloc (.cells #[.int .i64 1, .int .i64 (d : Int), .slice none 0 0, .slice none 0 0] 33)).alloc (.cells #[.int .i64 0, .int .i64 0, .slice none 0 0, .slice none 0 0] 33)).alloc (.cells #[.int .i64 1, .int .i64 (d : Int), .slice none 0 0, .slice none 0 0] 33)).cell? ⟨V, 0, none⟩ = some (.int .i64 1) := hrow0.cell rfl
  have y1 : (((w.alloc (.cells #[.int .i64 1, .int .i64 (d : Int), .slice none 0 0, .slice none 0 0] 33)).alloc (.cells #[.int .i64 0, .int .i64 0, .slice none 0 0, .slice none 0 0] 33)).alloc (.cells #[.int .i64 1, .int .i64 (d : Int), .slice none 0 0, .slice none 0 0] 33)).cell? ⟨V, 1, none⟩ = some (.int .i64 (d : Int)) := hrow0.cell rfl
  have y2 : (((w.alloc (.cells #[.int .i64 1, .int .i64 (d : Int), .slice none 0 0, .slice none 0 0] 33)).alloc (.cells #[.int .i64 0, .int .i64 0, .slice none 0 0, .slice none 0 0] 33)).alloc (.cells #[.int .i64 1, .int .i64 (d : Int), .slice none 0 0, .slice none 0 0] 33)).cell? ⟨V, 2, none⟩ = some (.slice none 0 0) := hrow0.cell rfl
  have y3 : (((w.alloc (.cells #[.int .i64 1, .int .i64 (d : Int), .slice none 0 0, .slice none 0 0] 33)).alloc (.cells #[.int .i64 0, .int .i64 0, .slice none 0 0, .slice none 0 0] 33)).alloc (.cells #[.int .i64 1, .int .i64 (d : Int), .slice none 0 0, .slice none 0 0] 33)).cell? ⟨V, 3, none⟩ = some (.slice none 0 0) := hrow0.cell rfl
  have yf := hrow0.frozen
  have z0 : (((w.alloc (.cells #[.int .i64 1, .int .i64 (d : Int), .slice none 0 0, .slice none 0 0] 33)).alloc (.cells #[.int .i64 0, .int .i64 0, .slice none 0 0, .slice none 0 0] 33)).alloc (.cells #[.int .i64 1, .int .i64 (d : Int), .slice none 0 0, .slice none 0 0] 33)).cell? ⟨(V + 1), 0, none⟩ = some (.int .i64 0) := hrow1.cell rfl
  have z1 : (((w.alloc (.cells #[.int .i64 1, .int .i64 (d : Int), .slice none 0 0, .slice none 0 0] 33)).alloc (.cells #[.int .i64 0, .int .i64 0, .slice none 0 0, .slice none 0 0] 33)).alloc (.cells #[.int .i64 1, .int .i64 (d : Int), .slice none 0 0, .slice none 0 0] 33)).cell? ⟨(V + 1), 1, none⟩ = some (.int .i64 0) := hrow1.cell rfl
  have z2 : (((w.alloc (.cells #[.int .i64 1, .int .i64 (d : Int), .slice none 0 0, .slice none 0 0] 33)).alloc (.cells #[.int .i64 0, .int .i64 0, .slice none 0 0, .slice none 0 0] 33)).alloc (.cells #[.int .i64 1, .int .i64 (d : Int), .slice none 0 0, .slice none 0 0] 33)).cell? ⟨(V + 1), 2, none⟩ = some (.slice none 0 0) := hrow1.cell rfl
  have z3 : (((w.alloc (.cells #[.int .i64 1, .int .i64 (d : Int), .slice none 0 0, .slice none 0 0] 33)).alloc (.cells #[.int .i64 0, .int .i64 0, .slice none 0 0, .slice none 0 0] 33)).alloc (.cells #[.int .i64 1, .int .i64 (d : Int), .slice none 0 0, .slice none 0 0] 33)).cell? ⟨(V + 1), 3, none⟩ = some (.slice none 0 0) := hrow1.cell rfl
  have zf := hrow1.frozen
  have p0 : (((w.alloc (.cells #[.int .i64 1, .int .i64 (d : Int), .slice none 0 0, .slice none 0 0] 33)).alloc (.cells #[.int .i64 0, .int .i64 0, .slice none 0 0, .slice none 0 0] 33)).alloc (.cells #[.int .i64 1, .int .i64 (d : Int), .slice none 0 0, .slice none 0 0] 33)).cell? ⟨(V + 1 + 1), 0, none⟩ = some (.int .i64 1) := hrow2.cell rfl
  have p1 : (((w.alloc (.cells #[.int .i64 1, .int .i64 (d : Int), .slice none 0 0, .slice none 0 0] 33)).alloc (.cells #[.int .i64 0, .int .i64 0, .slice none 0 0, .slice none 0 0] 33)).alloc (.cells #[.int .i64 1, .int .i64 (d : Int), .slice none 0 0, .slice none 0 0] 33)).cell? ⟨(V + 1 + 1), 1, none⟩ = some (.int .i64 (d : Int)) := hrow2.cell rfl
  have p2 : (((w.alloc (.cells #[.int .i64 1, .int .i64 (d : Int), .slice none 0 0, .slice none 0 0] 33)).alloc (.cells #[.int .i64 0, .int .i64 0, .slice none 0 0, .slice none 0 0] 33)).alloc (.cells #[.int .i64 1, .int .i64 (d : Int), .slice none 0 0, .slice none 0 0] 33)).cell? ⟨(V + 1 + 1), 2, none⟩ = some (.slice none 0 0) := hrow2.cell rfl
  have p3 : (((w.alloc (.cells #[.int .i64 1, .int .i64 (d : Int), .slice none 0 0, .slice none 0 0] 33)).alloc (.cells #[.int .i64 0, .int .i64 0, .slice none 0 0, .slice none 0 0] 33)).alloc (.cells #[.int .i64 1, .int .i64 (d : Int), .slice none 0 0, .slice none 0 0] 33)).cell? ⟨(V + 1 + 1), 3, none⟩ = some (.slice none 0 0) := hrow2.cell rfl
  have pf := hrow2.frozen
  clear hrow0 hrow1 hrow2 hmod hsz
  go_enter Tryz.func20, Tryz.ntmps20
  go_upto_region 4 with (fail)
  generalize (((w.alloc (.cells #[.int .i64 1, .int .i64 (d : Int), .slice none 0 0, .slice none 0 0] 33)).alloc (.cells #[.int .i64 0, .int .i64 0, .slice none 0 0, .slice none 0 0] 33)).alloc (.cells #[.int .i64 1, .int .i64 (d : Int), .slice none 0 0, .slice none 0 0] 33)) = W at *
  have hleaf := leaf1_any W
  go_upto_region 5 with (go_at_call 34; refine hleaf.mono ?_; rintro _ wq ⟨rfl, hwq⟩; rw [hwq]; clear hwq)
  clear hleaf
  have hwn0 : ¬ ((wid d : Nat) : Int) = 0 := by omega
  go_quiet ((go_at_call 35; exact Calls.quiet_of_same (width_any d hd _)))
  clear y0 y1 y2 y3 yf z0 z1 z2 z3 zf p0 p1 p2 p3 pf
  have hdm : Mod (fun _ => False) W (W.drewN nq) := ⟨rfl, rfl, rfl, Nat.le_refl _, fun _ _ _ => rfl⟩
  replace HROW0 := Lib.hid (HROW0.out.keep hdm (fun h => h))
  replace HROW1 := Lib.hid (HROW1.out.keep hdm (fun h => h))
  replace HROW2 := Lib.hid (HROW2.out.keep hdm (fun h => h))
  replace HM := Lib.hid (HM.out.trans hdm (fun _ _ h => h))
  replace HSZ : Hid ((W.drewN nq).heap.size = V + 3) := Lib.hid HSZ.out
  clear hdm
  generalize W.drewN nq = W2 at *
  have y0 : W2.cell? ⟨V, 0, none⟩ = some (.int .i64 1) := HROW0.out.cell rfl
  have y1 : W2.cell? ⟨V, 1, none⟩ = some (.int .i64 (d : Int)) := HROW0.out.cell rfl
  have y2 : W2.cell? ⟨V, 2, none⟩ = some (.slice none 0 0) := HROW0.out.cell rfl
  have y3 : W2.cell? ⟨V, 3, none⟩ = some (.slice none 0 0) := HROW0.out.cell rfl
  have yf := HROW0.out.frozen
  have z0 : W2.cell? ⟨V + 1, 0, none⟩ = some (.int .i64 0) := HROW1.out.cell rfl
  have z1 : W2.cell? ⟨V + 1, 1, none⟩ = some (.int .i64 0) := HROW1.out.cell rfl
  have z2 : W2.cell? ⟨V + 1, 2, none⟩ = some (.slice none 0 0) := HROW1.out.cell rfl
  have z3 : W2.cell? ⟨V + 1, 3, none⟩ = some (.slice none 0 0) := HROW1.out.cell rfl
  have zf := HROW1.out.frozen
  have p0 : W2.cell? ⟨V + 1 + 1, 0, none⟩ = some (.int .i64 1) := HROW2.out.cell rfl
  have p1 : W2.cell? ⟨V + 1 + 1, 1, none⟩ = some (.int .i64 (d : Int)) := HROW2.out.cell rfl
  have p2 : W2.cell? ⟨V + 1 + 1, 2, none⟩ = some (.slice none 0 0) := HROW2.out.cell rfl
  have p3 : W2.cell? ⟨V + 1 + 1, 3, none⟩ = some (.slice none 0 0) := HROW2.out.cell rfl
  have pf := HROW2.out.frozen
  go_upto_region 8 with (fail)
  rw [show min (0 : Int) 1 = 0 from rfl]
  have hw0 : IntKind.i64.wrap 0 = 0 := by decide
  have hm2 : Mod (· = V + 1 + 1) W2 ((W2.setCell ⟨V + 1 + 1, 2, none⟩ (.slice none 0 0)).drew) := (((Mod.refl (· = V + 1 + 1) W2).set1 (j := 2) _).drew)
  have HR0 := Lib.hid (HROW0.out.keep hm2 (by omega))
  have HR1 := Lib.hid (HROW1.out.keep hm2 (by omega))
  have HR2 : Hid (Row ((W2.setCell ⟨V + 1 + 1, 2, none⟩ (.slice none 0 0)).drew) (V + 1 + 1) #[.int .i64 1, .int .i64 (d : Int), .slice none 0 0, .slice none 0 0] 33) := Lib.hid (HROW2.out.set 2 (.slice none 0 0))
  have s0 : ((W2.setCell ⟨V + 1 + 1, 2, none⟩ (.slice none 0 0)).drew).cell? ⟨V, 2, none⟩ = some (.slice none 0 0) := HR0.out.cell (j := 2) rfl
  have s1 : ((W2.setCell ⟨V + 1 + 1, 2, none⟩ (.slice none 0 0)).drew).cell? ⟨V + 1 + 1, 1, none⟩ = some (.int .i64 (d : Int)) := HR2.out.cell (j := 1) rfl
  have s2 : ((W2.setCell ⟨V + 1 + 1, 2, none⟩ (.slice none 0 0)).drew).cell? ⟨V + 1 + 1, 2, none⟩ = some (.slice none 0 0) := HR2.out.cell (j := 2) rfl
  go_region_held3 (fun wx => wx.cell? ⟨V, 2, none⟩ = some (.slice none 0 0) ∧ wx.cell? ⟨V + 1 + 1, 1, none⟩ = some (.int .i64 (d : Int)) ∧ wx.cell? ⟨V + 1 + 1, 2, none⟩ = some (.slice none 0 0)) (go_keep)
    (first
      | (go_at_call 35; refine (width_any d hd _).mono ?_; rintro _ wq ⟨rfl, hwq⟩; rw [hwq]; clear hwq))
  clear s0 s1 s2
  have HM2 := Lib.hid (HM.out.trans hm2 (fun k hk e => by omega))
  have HS2 : Hid (V + 3 ≤ ((W2.setCell ⟨V + 1 + 1, 2, none⟩ (.slice none 0 0)).drew).heap.size) := Lib.hid (by have := hm2.size; have := HSZ.out; omega)
  clear HROW0 HROW1 HROW2 HM HSZ hm2 y0 y1 y2 y3 yf z0 z1 z2 z3 zf p0 p1 p2 p3 pf
  generalize (W2.setCell ⟨V + 1 + 1, 2, none⟩ (.slice none 0 0)).drew = w6 at *
  have p0 : w6.cell? ⟨(V + 1 + 1), 0, none⟩ = some (.int .i64 1) := HR2.out.cell rfl
  have p1 : w6.cell? ⟨(V + 1 + 1), 1, none⟩ = some (.int .i64 (d : Int)) := HR2.out.cell rfl
  have p2 : w6.cell? ⟨(V + 1 + 1), 2, none⟩ = some (.slice none 0 0) := HR2.out.cell rfl
  have p3 : w6.cell? ⟨(V + 1 + 1), 3, none⟩ = some (.slice none 0 0) := HR2.out.cell rfl
  have pf := HR2.out.frozen
  have z0 : w6.cell? ⟨(V + 1), 0, none⟩ = some (.int .i64 0) := HR1.out.cell rfl
  have z1 : w6.cell? ⟨(V + 1), 1, none⟩ = some (.int .i64 0) := HR1.out.cell rfl
  have z2 : w6.cell? ⟨(V + 1), 2, none⟩ = some (.slice none 0 0) := HR1.out.cell rfl
  have z3 : w6.cell? ⟨(V + 1), 3, none⟩ = some (.slice none 0 0) := HR1.out.cell rfl
  have zf := HR1.out.frozen
  have hend : Row _ (V + 1) _ 33 := ((((HR1.out.set 0 (.int .i64 1)).set 1 (.int .i64 (d : Int))).set 2 (.slice none 0 0)).set 3 (.slice none 0 0))
  go_wp2_with fail
  refine bodyPost_ret (results_c rfl _ _ (V + 1) 33 _ (0, 0) rfl hend Tryz.underlying33 info33) rfl ?_
  have hW : Mod (· = V + 1) w6 _ := ((((Mod.refl (· = V + 1) w6).set1 (j := 0) (.int .i64 1)).set1 (j := 1) (.int .i64 (d : Int))).set1 (j := 2) (.slice none 0 0)).set1 (j := 3) (.slice none 0 0)
  exact ⟨(HM2.out.trans hW (fun k hk e => by omega)).below (fun _ _ h => h), _, rfl, own_alloc_nil _ _⟩
set_option maxHeartbeats 8000000 in
theorem newF_any {w : World} {d : Nat} (hd : d < 4) {B g c n : Nat} {xs : List Nat} (hn : wid d = n) (hxl : xs.length = n) (hown : w.ownsRow B 38 1 (.slice (some ⟨g, 0, none⟩) n c) n (xs.map fl)) : Calls Tryz.prog 20 #[.agg #[.int .i64 1, .int .i64 (d : Int), .slice (some ⟨g, 0, none⟩) n c, .slice none 0 0]] w (NewPost d xs w) := by
  have hst := store_f
  have hbt := and3 d hd
  have hwd : 2 ≤ n ∧ n ≤ 4 := by rw [← hn]; unfold wid; split <;> split <;> omega
  have hwc : ∀ w, Calls Tryz.prog 35 #[.int .i64 (d : Nat)] w fun e w' => e = .returned (.int .i64 (n : Nat)) ∧ w' = w := fun w => by rw [← hn]; exact width_any d hd w
  have hcap : n ≤ c ∧ c ≤ maxLen := by
    rcases hown.2 with ⟨e, _⟩ | ⟨g', cap, cur, e, _, _, h1, h2, _⟩
    · cases e
    · injection e with _ _ e3
      rw [e3]; exact ⟨h1, h2⟩
  have hgs : g < w.heap.size := (hown.lt g rfl).2
  clear hn
  have hd' : (d : Int) < 4 := by omega
  obtain ⟨V, hV⟩ : ∃ V, w.heap.size = V := ⟨_, rfl⟩
  have hrow0 : Row (((w.alloc (.cells #[.int .i64 1, .int .i64 (d : Int), .slice (some ⟨g, 0, none⟩) n c, .slice none 0 0] 33)).alloc (.cells #[.int .i64 0, .int .i64 0, .slice none 0 0, .slice none 0 0] 33)).alloc (.cells #[.int .i64 1, .int .i64 (d : Int), .slice none 0 0, .slice none 0 0] 33)) V #[.int .i64 1, .int .i64 (d : Int), .slice (some ⟨g, 0, none⟩) n c, .slice none 0 0] 33 := by rw [← hV]; exact ((Row.new w _ 33).alloc _).alloc _
  have hrow1 : Row (((w.alloc (.cells #[.int .i64 1, .int .i64 (d : Int), .slice (some ⟨g, 0, none⟩) n c, .slice none 0 0] 33)).alloc (.cells #[.int .i64 0, .int .i64 0, .slice none 0 0, .slice none 0 0] 33)).alloc (.cells #[.int .i64 1, .int .i64 (d : Int), .slice none 0 0, .slice none 0 0] 33)) (V + 1) #[.int .i64 0, .int .i64 0, .slice none 0 0, .slice none 0 0] 33 := by rw [← hV]; exact Row.alloc (heap_alloc2_new w _ _) _
  have hrow2 : Row (((w.alloc (.cells #[.int .i64 1, .int .i64 (d : Int), .slice (some ⟨g, 0, none⟩) n c, .slice none 0 0] 33)).alloc (.cells #[.int .i64 0, .int .i64 0, .slice none 0 0, .slice none 0 0] 33)).alloc (.cells #[.int .i64 1, .int .i64 (d : Int), .slice none 0 0, .slice none 0 0] 33)) (V + 1 + 1) #[.int .i64 1, .int .i64 (d : Int), .slice none 0 0, .slice none 0 0] 33 := by
    have e : V + 1 + 1 = ((w.alloc (.cells #[.int .i64 1, .int .i64 (d : Int), .slice (some ⟨g, 0, none⟩) n c, .slice none 0 0] 33)).alloc (.cells #[.int .i64 0, .int .i64 0, .slice none 0 0, .slice none 0 0] 33)).heap.size := by simp [hV]
    rw [e]; exact Row.new _ _ 33
  have hmod : Mod (fun _ => False) w (((w.alloc (.cells #[.int .i64 1, .int .i64 (d : Int), .slice (some ⟨g, 0, none⟩) n c, .slice none 0 0] 33)).alloc (.cells #[.int .i64 0, .int .i64 0, .slice none 0 0, .slice none 0 0] 33)).alloc (.cells #[.int .i64 1, .int .i64 (d : Int), .slice none 0 0, .slice none 0 0] 33)) := (((Mod.refl _ w).alloc _).alloc _).alloc _
  have hsz : (((w.alloc (.cells #[.int .i64 1, .int .i64 (d : Int), .slice (some ⟨g, 0, none⟩) n c, .slice none 0 0] 33)).alloc (.cells #[.int .i64 0, .int .i64 0, .slice none 0 0, .slice none 0 0] 33)).alloc (.cells #[.int .i64 1, .int .i64 (d : Int), .slice none 0 0, .slice none 0 0] 33)).heap.size = V + 3 := by simp [hV]
  have HROW0 := Lib.hid hrow0
  have HROW1 := Lib.hid hrow1
  have HROW2 := Lib.hid hrow2
  have HM := Lib.hid hmod
  have HSZ := Lib.hid hsz
  have y0 : (((w.alloc (.cells #[.int .i64 1, .int .i64 (d : Int), .slice (some ⟨g, 0, none⟩) n c, .slice none 0 0] 33)).alloc (.cells #[.int .i64 0, .int .i64 0, .slice none 0 0, .slice none 0 0] 33)).alloc (.cells #[.int .i64 1, .int .i64 (d : Int), .slice none 0 0, .slice none 0 0] 33)).cell? ⟨V, 0, none⟩ = some (.int .i64 1) := hrow0.cell rfl
  have y1 : (((w.alloc (.cells #[.int .i64 1, .int .i64 (d : Int), .slice (some ⟨g, 0, none⟩) n c, .slice none 0 0] 33)).alloc (.cells #[.int .i64 0, .int .i64 0, .slice none 0 0, .slice none 0 0] 33)).alloc (.cells #[.int .i64 1, .int .i64 (d : Int), .slice none 0 0, .slice none 0 0] 33)).cell? ⟨V, 1, none⟩ = some (.int .i64 (d : Int)) := hrow0.cell rfl
  have y2 : (((w.alloc (.cells #[.int .i64 1, .int .i64 (d : Int), .slice (some ⟨g, 0, none⟩) n c, .slice none 0 0] 33)).alloc (.cells #[.int .i64 0, .int .i64 0, .slice none 0 0, .slice none 0 0] 33)).alloc (.cells #[.int .i64 1, .int .i64 (d : Int), .slice none 0 0, .slice none 0 0] 33)).cell? ⟨V, 2, none⟩ = some (.slice (some ⟨g, 0, none⟩) n c) := hrow0.cell rfl
  have y3 : (((w.alloc (.cells #[.int .i64 1, .int .i64 (d : Int), .slice (some ⟨g, 0, none⟩) n c, .slice none 0 0] 33)).alloc (.cells #[.int .i64 0, .int .i64 0, .slice none 0 0, .slice none 0 0] 33)).alloc (.cells #[.int .i64 1, .int .i64 (d : Int), .slice none 0 0, .slice none 0 0] 33)).cell? ⟨V, 3, none⟩ = some (.slice none 0 0) := hrow0.cell rfl
  have yf := hrow0.frozen
  have z0 : (((w.alloc (.cells #[.int .i64 1, .int .i64 (d : Int), .slice (some ⟨g, 0, none⟩) n c, .slice none 0 0] 33)).alloc (.cells #[.int .i64 0, .int .i64 0, .slice none 0 0, .slice none 0 0] 33)).alloc (.cells #[.int .i64 1, .int .i64 (d : Int), .slice none 0 0, .slice none 0 0] 33)).cell? ⟨(V + 1), 0, none⟩ = some (.int .i64 0) := hrow1.cell rfl
  have z1 : (((w.alloc (.cells #[.int .i64 1, .int .i64 (d : Int), .slice (some ⟨g, 0, none⟩) n c, .slice none 0 0] 33)).alloc (.cells #[.int .i64 0, .int .i64 0, .slice none 0 0, .slice none 0 0] 33)).alloc (.cells #[.int .i64 1, .int .i64 (d : Int), .slice none 0 0, .slice none 0 0] 33)).cell? ⟨(V + 1), 1, none⟩ = some (.int .i64 0) := hrow1.cell rfl
  have z2 : (((w.alloc (.cells #[.int .i64 1, .int .i64 (d : Int), .slice (some ⟨g, 0, none⟩) n c, .slice none 0 0] 33)).alloc (.cells #[.int .i64 0, .int .i64 0, .slice none 0 0, .slice none 0 0] 33)).alloc (.cells #[.int .i64 1, .int .i64 (d : Int), .slice none 0 0, .slice none 0 0] 33)).cell? ⟨(V + 1), 2, none⟩ = some (.slice none 0 0) := hrow1.cell rfl
  have z3 : (((w.alloc (.cells #[.int .i64 1, .int .i64 (d : Int), .slice (some ⟨g, 0, none⟩) n c, .slice none 0 0] 33)).alloc (.cells #[.int .i64 0, .int .i64 0, .slice none 0 0, .slice none 0 0] 33)).alloc (.cells #[.int .i64 1, .int .i64 (d : Int), .slice none 0 0, .slice none 0 0] 33)).cell? ⟨(V + 1), 3, none⟩ = some (.slice none 0 0) := hrow1.cell rfl
  have zf := hrow1.frozen
  have p0 : (((w.alloc (.cells #[.int .i64 1, .int .i64 (d : Int), .slice (some ⟨g, 0, none⟩) n c, .slice none 0 0] 33)).alloc (.cells #[.int .i64 0, .int .i64 0, .slice none 0 0, .slice none 0 0] 33)).alloc (.cells #[.int .i64 1, .int .i64 (d : Int), .slice none 0 0, .slice none 0 0] 33)).cell? ⟨(V + 1 + 1), 0, none⟩ = some (.int .i64 1) := hrow2.cell rfl
  have p1 : (((w.alloc (.cells #[.int .i64 1, .int .i64 (d : Int), .slice (some ⟨g, 0, none⟩) n c, .slice none 0 0] 33)).alloc (.cells #[.int .i64 0, .int .i64 0, .slice none 0 0, .slice none 0 0] 33)).alloc (.cells #[.int .i64 1, .int .i64 (d : Int), .slice none 0 0, .slice none 0 0] 33)).cell? ⟨(V + 1 + 1), 1, none⟩ = some (.int .i64 (d : Int)) := hrow2.cell rfl
  have p2 : (((w.alloc (.cells #[.int .i64 1, .int .i64 (d : Int), .slice (some ⟨g, 0, none⟩) n c, .slice none 0 0] 33)).alloc (.cells #[.int .i64 0, .int .i64 0, .slice none 0 0, .slice none 0 0] 33)).alloc (.cells #[.int .i64 1, .int .i64 (d : Int), .slice none 0 0, .slice none 0 0] 33)).cell? ⟨(V + 1 + 1), 2, none⟩ = some (.slice none 0 0) := hrow2.cell rfl
  have p3 : (((w.alloc (.cells #[.int .i64 1, .int .i64 (d : Int), .slice (some ⟨g, 0, none⟩) n c, .slice none 0 0] 33)).alloc (.cells #[.int .i64 0, .int .i64 0, .slice none 0 0, .slice none 0 0] 33)).alloc (.cells #[.int .i64 1, .int .i64 (d : Int), .slice none 0 0, .slice none 0 0] 33)).cell? ⟨(V + 1 + 1), 3, none⟩ = some (.slice none 0 0) := hrow2.cell rfl
  have pf := hrow2.frozen
  clear hrow0 hrow1 hrow2 hmod hsz
  have HOWN := Lib.hid (hown.cells rfl)
  have HXL := Lib.hid hxl
  clear hown hxl
  have hcells : ∀ j u, (xs.map fl)[j]? = some u → (((w.alloc (.cells #[.int .i64 1, .int .i64 (d : Int), .slice (some ⟨g, 0, none⟩) n c, .slice none 0 0] 33)).alloc (.cells #[.int .i64 0, .int .i64 0, .slice none 0 0, .slice none 0 0] 33)).alloc (.cells #[.int .i64 1, .int .i64 (d : Int), .slice none 0 0, .slice none 0 0] 33)).cell? ((⟨g, 0, none⟩ : Addr).add j) = some u := fun j u hu => (World.cell?_of_block (by rw [add_block]; exact HM.out.block g hgs (fun h => h))).trans (HOWN.out j u hu)
  have HCELL := Lib.hid hcells
  clear hcells HOWN
  go_enter Tryz.func20, Tryz.ntmps20
  go_upto_region 4 with (fail)
  generalize (((w.alloc (.cells #[.int .i64 1, .int .i64 (d : Int), .slice (some ⟨g, 0, none⟩) n c, .slice none 0 0] 33)).alloc (.cells #[.int .i64 0, .int .i64 0, .slice none 0 0, .slice none 0 0] 33)).alloc (.cells #[.int .i64 1, .int .i64 (d : Int), .slice none 0 0, .slice none 0 0] 33)) = W at *
  have hleaf := leaf1_any W
  go_upto_region 5 with (go_at_call 34; refine hleaf.mono ?_; rintro _ wq ⟨rfl, hwq⟩; rw [hwq]; clear hwq)
  clear hleaf
  have hn0 : ¬ (n : Int) = 0 := by omega
  have hq : Int.tdiv (n : Int) (n : Int) = 1 := Int.tdiv_self hn0
  go_quiet ((go_at_call 35; exact Calls.quiet_of_same (hwc _)))
  clear y0 y1 y2 y3 yf z0 z1 z2 z3 zf p0 p1 p2 p3 pf
  have hdm : Mod (fun _ => False) W (W.drewN nq) := ⟨rfl, rfl, rfl, Nat.le_refl _, fun _ _ _ => rfl⟩
  replace HROW0 := Lib.hid (HROW0.out.keep hdm (fun h => h))
  replace HROW1 := Lib.hid (HROW1.out.keep hdm (fun h => h))
  replace HROW2 := Lib.hid (HROW2.out.keep hdm (fun h => h))
  replace HM := Lib.hid (HM.out.trans hdm (fun _ _ h => h))
  replace HSZ : Hid ((W.drewN nq).heap.size = V + 3) := Lib.hid HSZ.out
  replace HCELL : Hid (∀ j u, (xs.map fl)[j]? = some u → (W.drewN nq).cell? ((⟨g, 0, none⟩ : Addr).add j) = some u) := Lib.hid HCELL.out
  clear hdm
  generalize W.drewN nq = W2 at *
  have y0 : W2.cell? ⟨V, 0, none⟩ = some (.int .i64 1) := HROW0.out.cell rfl
  have y1 : W2.cell? ⟨V, 1, none⟩ = some (.int .i64 (d : Int)) := HROW0.out.cell rfl
  have y2 : W2.cell? ⟨V, 2, none⟩ = some (.slice (some ⟨g, 0, none⟩) n c) := HROW0.out.cell rfl
  have y3 : W2.cell? ⟨V, 3, none⟩ = some (.slice none 0 0) := HROW0.out.cell rfl
  have yf := HROW0.out.frozen
  have z0 : W2.cell? ⟨V + 1, 0, none⟩ = some (.int .i64 0) := HROW1.out.cell rfl
  have z1 : W2.cell? ⟨V + 1, 1, none⟩ = some (.int .i64 0) := HROW1.out.cell rfl
  have z2 : W2.cell? ⟨V + 1, 2, none⟩ = some (.slice none 0 0) := HROW1.out.cell rfl
  have z3 : W2.cell? ⟨V + 1, 3, none⟩ = some (.slice none 0 0) := HROW1.out.cell rfl
  have zf := HROW1.out.frozen
  have p0 : W2.cell? ⟨V + 1 + 1, 0, none⟩ = some (.int .i64 1) := HROW2.out.cell rfl
  have p1 : W2.cell? ⟨V + 1 + 1, 1, none⟩ = some (.int .i64 (d : Int)) := HROW2.out.cell rfl
  have p2 : W2.cell? ⟨V + 1 + 1, 2, none⟩ = some (.slice none 0 0) := HROW2.out.cell rfl
  have p3 : W2.cell? ⟨V + 1 + 1, 3, none⟩ = some (.slice none 0 0) := HROW2.out.cell rfl
  have pf := HROW2.out.frozen
  go_upto_region 8 with (fail)
  have hwn : IntKind.i64.wrap (n : Int) = (n : Int) := IntWalk.i64_in _ (by omega)
  have hWV : V ≤ W2.heap.size := by rw [HSZ.out]; omega
  go_region_law
    (first
      | (refine step_append_lies _ rfl (.tmp 40) (.tmp 48) 30 rfl V 38 _ _ 1 8 Tryz.underlying30 rfl rfl rfl rfl rfl (by decide) (.slice none 0 0) 0 [] rfl (own_alloc_nil _ _) ⟨g, 0, none⟩ n _ (xs.map fl) rfl (by rw [List.length_map, HXL.out, Nat.mul_one]) HCELL.out (fl_one xs) (by omega) (by unfold maxLen; omega) (by omega) hWV _ rfl ?_; intro g6 cap6 w6 hown6 hg6 hat6 hlt6; have hqr6 : Row w6 (V + 1 + 1) #[.int .i64 1, .int .i64 (d : Int), .slice none 0 0, .slice none 0 0] 33 := (hg6.block (V + 1 + 1) (lt_of_row HROW2.out) (by intro e; cases e)).trans HROW2.out; have r2 : w6.cell? ⟨V + 1 + 1, 2, none⟩ = some (.slice none 0 0) := hqr6.cell (j := 2) rfl; have rf := hqr6.frozen; have HQR6 := Lib.hid hqr6; clear hqr6)
      | (go_simp; go_at_call 35; refine (hwc _).mono ?_; rintro _ wq ⟨rfl, hwq⟩; rw [hwq]; clear hwq))
  all_goals
    have hNT := new_tail (d := d) hV HM.out HSZ.out HROW1.out HQR6.out hown6 hg6 hat6
    have HNT := Lib.hid hNT
    clear hNT hown6 hg6 hat6 HQR6 HROW0 HROW1 HROW2 HM HSZ y0 y1 y2 y3 yf z0 z1 z2 z3 zf p0 p1 p2 p3 pf r2 rf HCELL hlt6 hwc
    generalize w6.setCell ⟨V + 1 + 1, 2, none⟩ (.slice (some ⟨g6, 0, none⟩) n cap6) = w8 at *
    have p0 : w8.cell? ⟨(V + 1 + 1), 0, none⟩ = some (.int .i64 1) := HNT.out.row2.cell rfl
    have p1 : w8.cell? ⟨(V + 1 + 1), 1, none⟩ = some (.int .i64 (d : Int)) := HNT.out.row2.cell rfl
    have p2 : w8.cell? ⟨(V + 1 + 1), 2, none⟩ = some (.slice (some ⟨g6, 0, none⟩) n cap6) := HNT.out.row2.cell rfl
    have p3 : w8.cell? ⟨(V + 1 + 1), 3, none⟩ = some (.slice none 0 0) := HNT.out.row2.cell rfl
    have pf := HNT.out.row2.frozen
    have z0 : w8.cell? ⟨(V + 1), 0, none⟩ = some (.int .i64 0) := HNT.out.row1.cell rfl
    have z1 : w8.cell? ⟨(V + 1), 1, none⟩ = some (.int .i64 0) := HNT.out.row1.cell rfl
    have z2 : w8.cell? ⟨(V + 1), 2, none⟩ = some (.slice none 0 0) := HNT.out.row1.cell rfl
    have z3 : w8.cell? ⟨(V + 1), 3, none⟩ = some (.slice none 0 0) := HNT.out.row1.cell rfl
    have zf := HNT.out.row1.frozen
    have hend : Row _ (V + 1) _ 33 := ((((HNT.out.row1.set 0 (.int .i64 1)).set 1 (.int .i64 (d : Int))).set 2 (.slice (some ⟨g6, 0, none⟩) n cap6)).set 3 (.slice none 0 0))
    go_wp2_with fail
    refine bodyPost_ret (results_c rfl _ _ (V + 1) 33 _ (0, 0) rfl hend Tryz.underlying33 info33) rfl ?_
    have hW : Mod (· = V + 1) w8 _ := ((((Mod.refl (· = V + 1) w8).set1 (j := 0) (.int .i64 1)).set1 (j := 1) (.int .i64 (d : Int))).set1 (j := 2) (.slice (some ⟨g6, 0, none⟩) n cap6)).set1 (j := 3) (.slice none 0 0)
    refine ⟨(HNT.out.mod.trans hW (fun k hk e => by omega)).below (fun _ _ h => h), _, rfl, ?_⟩
    rw [HXL.out, hV]
    exact own_far_cells HNT.out.own HNT.out.row1 (by decide) (fun k hk => by rw [heap_setCell_other _ _ _ _ hk, heap_setCell_other _ _ _ _ hk, heap_setCell_other _ _ _ _ hk, heap_setCell_other _ _ _ _ hk])
end Go.Proofs.YtadpeebcombjnaaGreatDoor
namespace Go.Proofs.YtadpeebcombjnaaGreatDoor
open Go Go.Proofs Go.RowKit Go.Lib
set_option maxRecDepth 100000
theorem spaced_two : ∀ (f : Nat) (l : List UInt8) (j : Bool) (ts : List Tok), l.length ≤ f → toksAt l j = some ts → (spaced ts).length ≤ 2 * l.length := by
  intro f
  induction f with
  | zero =>
    intro l j ts hl h
    have : l = [] := List.length_eq_zero_iff.1 (by omega)
    rw [this, toksAt_nil] at h
    rw [← Option.some.inj h]
    simp [spaced]
  | succ f ih =>
    intro l j ts hl h
    cases l with
    | nil =>
      rw [toksAt_nil] at h
      rw [← Option.some.inj h]
      simp [spaced]
    | cons c r =>
      have hr : r.length ≤ f := by simp at hl; omega
      have bg : ∀ {n k : Nat} {j' : Bool}, 0 < n → n ≤ (c :: r).length → (toksAt ((c :: r).drop n) j').map (((UInt8.ofNat k, (c :: r).take n) : Tok) :: ·) = some ts → (spaced ts).length ≤ 2 * (c :: r).length := by
        intro n k j' hn hn2 h
        obtain ⟨ts', e1, e2⟩ := Option.map_eq_some_iff.1 h
        have := ih _ j' ts' (by rw [List.length_drop, List.length_cons]; omega) e1
        rw [← e2]
        simp only [spaced, List.flatMap_cons, List.length_append, List.length_take, List.length_singleton, List.length_drop] at this ⊢
        omega
      have sg : ∀ {j' : Bool}, (toksAt r j').map (((c, [c]) : Tok) :: ·) = some ts → (spaced ts).length ≤ 2 * (c :: r).length := by
        intro j' h
        obtain ⟨ts', e1, e2⟩ := Option.map_eq_some_iff.1 h
        have := ih r j' ts' hr e1
        rw [← e2]
        simp only [spaced, List.flatMap_cons, List.length_append, List.length_cons] at this ⊢
        simp only [List.length_nil] at this ⊢
        omega
      rcases byte_view c with ⟨h1, h2⟩ | ⟨h1, h2, h3⟩ | ⟨h1, h2⟩ | ⟨_, _, h1, h2⟩
      · rw [toksAt_blank h1] at h
        have := ih r false ts hr h
        rw [List.length_cons]; omega
      · rw [toksAt_sign h1, if_neg (fun e => h3 e.1)] at h
        exact sg h
      · rw [toksAt_sign (.inr (.inr (.inr h1)))] at h
        split at h
        · exact absurd h (by simp)
        exact sg h
      · by_cases hw : isLet c = true
        · rw [toksAt_word hw] at h
          split at h
          · exact absurd h (by simp)
          exact bg (k := 97) (letN_pos hw) (letN_le _) h
        · rw [toksAt_num h1 h2 hw] at h
          split at h
          · exact absurd h (by simp)
          rename_i hn
          exact bg (k := 49) (by rcases Nat.eq_zero_or_pos (decN (c :: r)) with e | e; exact absurd (.inl e) hn; exact e) (decN_le _) h
theorem word_blank {l r : List UInt8} (h0 : l ≠ []) (hl : letN l = l.length) : toksAt (l ++ 32 :: r) false = (toksAt r false).map (((97, l) : Tok) :: ·) := by
  have hc : Clear (32 :: r) := by
    rintro c r e
    injection e with e _
    unfold tmB; simp [← e]
  obtain ⟨c, q, rfl⟩ := List.exists_cons_of_ne_nil h0
  have hw : isLet c = true := by
    unfold letN at hl
    split at hl
    · assumption
    · simp at hl
  have e2 : letN ((c :: q) ++ 32 :: r) = (c :: q).length := by rw [letN_app _ hc, hl]
  show toksAt (c :: (q ++ 32 :: r)) false = _
  rw [toksAt_word hw, if_neg (by decide)]
  change ((toksAt (((c :: q) ++ 32 :: r).drop (letN ((c :: q) ++ 32 :: r))) true).map fun x => ((97, ((c :: q) ++ 32 :: r).take (letN ((c :: q) ++ 32 :: r))) : Tok) :: x) = _
  rw [e2, List.drop_left, List.take_left, toksAt_blank (.inl rfl)]
/-- The text that is given to the reference. -/
def wktL (d : Nat) (B : List Tok) : List UInt8 := POINT ++ (tagL d ++ 32 :: spaced B)
theorem wkt_toks (d : Nat) (hd : d < 4) (B : List Tok) (h : ∀ t ∈ B, Good t) : toksAt (wktL d B) false = some ((97, POINT) :: (tgT d ++ B)) := by
  have hb := retok B h
  have hb2 : toksAt (32 :: spaced B) false = some B := by rw [toksAt_blank (.inl rfl)]; exact hb
  obtain rfl | rfl | rfl | rfl : d = 0 ∨ d = 1 ∨ d = 2 ∨ d = 3 := by omega
  · show toksAt (POINT ++ 32 :: spaced B) false = _
    rw [word_blank (by decide) (by decide), hb]; rfl
  · show toksAt (POINT ++ 32 :: ([90] ++ 32 :: (32 :: spaced B))) false = _
    rw [word_blank (by decide) (by decide), word_blank (by decide) (by decide), hb2]; rfl
  · show toksAt (POINT ++ 32 :: ([77] ++ 32 :: (32 :: spaced B))) false = _
    rw [word_blank (by decide) (by decide), word_blank (by decide) (by decide), hb2]; rfl
  · show toksAt (POINT ++ 32 :: ([90, 77] ++ 32 :: (32 :: spaced B))) false = _
    rw [word_blank (by decide) (by decide), word_blank (by decide) (by decide), hb2]; rfl
theorem snew_any {w : World} {B d : Nat} (hd : d < 4) {xs : List Nat} {v : Value} (hown : w.ownsRow B 38 1 v xs.length (xs.map fl)) (hx : (xs = [] ∧ v = .slice none 0 0) ∨ xs.length = wid d) :
    Calls Tryz.prog 20 #[.agg #[.int .i64 1, .int .i64 (d : Int), v, .slice none 0 0]] w (NewPost d xs w) := by
  rcases hx with ⟨rfl, rfl⟩ | hx
  · exact newE_any hd trivial
  · obtain ⟨g, c, rfl, _, _⟩ := hown.form (by rw [hx]; unfold wid; split <;> split <;> omega)
    exact newF_any hd hx.symm rfl hown
def WKTPost (T : World → Prop) (PF : List UInt8 → Option Nat) (d : Nat) (B : List Tok) (w : World) (e : Ending) (w' : World) : Prop := Below w.heap.size w w' ∧ T w' ∧
  ((specRead PF (wid d) B = none ∧ e = .returned (.tuple #[.agg #[.int .i64 0, .int .i64 0, .slice none 0 0, .slice none 0 0], .bool false])) ∨
    ∃ o v, specRead PF (wid d) B = some o ∧ e = .returned (.tuple #[.agg #[.int .i64 1, .int .i64 (d : Int), v, .slice none 0 0], .bool true]) ∧ w'.ownsRow w.heap.size 38 1 v (o.getD []).length ((o.getD []).map fl))
theorem tokCells_len (ts : List Tok) : (tokCells ts).length = 2 * ts.length := by
  induction ts with
  | nil => rfl
  | cons t ts ih => simp only [tokCells, List.flatMap_cons, List.length_append, List.length_cons, List.length_nil] at ih ⊢; omega
/-- The reader as it begins. -/
theorem RD.start {w : World} {B0 g c : Nat} {ts : List Tok} (hown : w.ownsRow B0 73 2 (.slice (some ⟨g, 0, none⟩) ts.length c) ts.length (tokCells ts)) : RD (w.alloc (.cells #[.slice (some ⟨g, 0, none⟩) ts.length c, .bool false] 60)) w.heap.size ts ts false g 0 ts.length c := by
  have hcap : ts.length ≤ c ∧ c ≤ maxLen := by
    rcases hown.2 with ⟨e, _⟩ | ⟨g', cap, cur, e, _, _, h1, h2, _⟩
    · cases e
    · injection e with _ _ e3
      rw [e3]; exact ⟨h1, h2⟩
  have hgs := (hown.lt g rfl).2
  refine ⟨Row.new _ _ 60, rfl, hcap.1, hcap.2, fun hm j hj => ?_, Nat.le_refl _⟩
  rw [Nat.zero_add]
  have hj2 : j < (tokCells ts).length := by rw [tokCells_len]; exact hj
  have h1 := hown.cells rfl j _ (List.getElem?_eq_getElem hj2)
  have e : (⟨g, 0, none⟩ : Addr).add j = ⟨g, j, none⟩ := by unfold Addr.add; split <;> simp_all
  rw [e] at h1
  rw [List.getElem?_eq_getElem hj2, ← h1]
  exact World.cell?_of_block (Below.heap_alloc w _ g hgs)
set_option maxHeartbeats 8000000 in
theorem wkt_any {lo : Nat} {T : World → Prop} {PF : List UInt8 → Option Nat} (C0 : PFC lo T PF) {w : World} {d : Nat} {B : List Tok} (hd : d < 4) (hT : T w) (hlo : lo ≤ w.heap.size) (hgood : ∀ t ∈ B, Good t) (hlen : ∀ t ∈ B, t.2.length ≤ 2000) (hB : ∀ i u, 1 ≤ i → i < 4 → B ≠ (97, dnameL i) :: u) (hsz : (spaced B).length ≤ 4000) :
    Calls Tryz.prog 8 #[.string ⟨(wktL d B).toArray⟩] w (WKTPost T PF d B w) := by
  have htk := wkt_toks d hd B hgood
  have hwl : (wktL d B).length ≤ 5000 := by
    unfold wktL
    rw [List.length_append, List.length_append, List.length_cons]
    have : (tagL d).length ≤ 4 := by obtain rfl | rfl | rfl | rfl : d = 0 ∨ d = 1 ∨ d = 2 ∨ d = 3 := by omega
                                     all_goals decide
    have : POINT.length = 5 := rfl
    omega
  generalize wktL d B = L at *
  obtain ⟨V, hV⟩ : ∃ V, w.heap.size = V := ⟨_, rfl⟩
  have HROW0 : Hid (Row (w.alloc (.cells #[.int .i64 0, .int .i64 0, .slice none 0 0, .slice none 0 0] 33)) V #[.int .i64 0, .int .i64 0, .slice none 0 0, .slice none 0 0] 33) := Lib.hid (by rw [← hV]; exact Row.new w _ 33)
  have HB1 : Hid (Below V w (w.alloc (.cells #[.int .i64 0, .int .i64 0, .slice none 0 0, .slice none 0 0] 33))) := Lib.hid (by rw [← hV]; exact ((Mod.refl (fun _ => False) w).alloc _).below (fun _ _ h => h))
  have HS1 : Hid ((w.alloc (.cells #[.int .i64 0, .int .i64 0, .slice none 0 0, .slice none 0 0] 33)).heap.size = V + 1) := Lib.hid (by simp [hV])
  have HT := Lib.hid hT
  have HGD := Lib.hid hgood
  have HLN := Lib.hid hlen
  have HC0 := Lib.hid C0
  have HBB := Lib.hid hB
  have HTK := Lib.hid htk
  clear hT hgood hlen C0 hB htk
  go_enter Tryz.func8, Tryz.ntmps8
  go_upto_region 1 with (fail)
  generalize w.alloc (.cells #[.int .i64 0, .int .i64 0, .slice none 0 0, .slice none 0 0] 33) = W at *
  have htok := tokens_any ⟨L.toArray⟩ W (by rw [← size_list]; simp; omega)
  go_wp2_with fail
  go_at_call 19
  refine htok.mono ?_
  rintro e w2 ⟨hb, ⟨hno, _⟩ | ⟨ts, v, hts, rfl, hl, hown⟩⟩
  · have : By ⟨L.toArray⟩ = L := by simp [By]
    exact absurd (hno.symm.trans HTK.out) (by simp)
  have hts' : ts = (97, POINT) :: (tgT d ++ B) := Option.some.inj (hts.symm.trans HTK.out)
  obtain ⟨g, c, rfl, hgW, hg2⟩ := hown.form (by rw [hts']; simp)
  have HRD := Lib.hid (RD.start hown)
  rw [hts'] at HRD
  have hS := HS1.out
  rw [hS] at hb hgW
  have hS2 := hb.size
  obtain ⟨n, hn⟩ : ∃ n, ts.length = n := ⟨_, rfl⟩
  have hn' : ((97, POINT) :: (tgT d ++ B)).length = n := by rw [← hts']; exact hn
  rw [hn'] at HRD
  rw [hn]
  obtain ⟨r, hr⟩ : ∃ r, w2.heap.size = r := ⟨_, rfl⟩
  rw [hr] at HRD hg2 hS2
  have hma : Mod (fun _ => False) w2 (w2.alloc (.cells #[.slice (some ⟨g, 0, none⟩) n c, .bool false] 60)) := (Mod.refl _ w2).alloc _
  have hrow2 : Row w2 V #[.int .i64 0, .int .i64 0, .slice none 0 0, .slice none 0 0] 33 := (hb.block V (by omega)).trans HROW0.out
  have HROW3 : Hid (Row (w2.alloc (.cells #[.slice (some ⟨g, 0, none⟩) n c, .bool false] 60)) V #[.int .i64 0, .int .i64 0, .slice none 0 0, .slice none 0 0] 33) := Lib.hid (hrow2.keep hma (fun h => h))
  have HB3 : Hid (Below V w (w2.alloc (.cells #[.slice (some ⟨g, 0, none⟩) n c, .bool false] 60))) := Lib.hid (HB1.out.trans ((hb.mono (by omega)).trans (hma.below_of (by omega) (fun _ _ h => h))))
  have HS3 : Hid ((w2.alloc (.cells #[.slice (some ⟨g, 0, none⟩) n c, .bool false] 60)).heap.size = r + 1) := Lib.hid (by simp [hr])
  have HT3 := Lib.hid (HC0.out.mono (base := lo) (Nat.le_refl lo) (HB3.out.mono (by omega)) HT.out)
  clear hrow2 HROW0 HB1 HS1 hts hown hts' hma hb hn hn' htok hl
  go_upto_region 5 with (fail)
  generalize w2.alloc (.cells #[.slice (some ⟨g, 0, none⟩) n c, .bool false] 60) = w3 at *
  have htag := tagged_any HC0.out hd HT3.out HRD.out (by omega) (by rw [HS3.out]; omega) (by omega) HGD.out HLN.out HBB.out
  go_wp2_with fail
  go_at_call 21
  refine htag.mono ?_
  rintro e w4 ⟨hm4, hT4, v, xs, ts', bad, o4, m4, c4, rfl, hown4, hx, hrd4, hres⟩
  have hs3 := HS3.out
  have hs4 := hm4.size
  have hnew := snew_any hd hown4 hx
  have HROW4 := Lib.hid (HROW3.out.keep hm4 (by omega))
  have HB4 := Lib.hid (HB3.out.trans (hm4.below_of (N := V) (by omega) (fun k hk e => by omega)))
  have HRD4 := Lib.hid hrd4
  have HRES := Lib.hid hres
  have HT4 := Lib.hid hT4
  obtain ⟨aa, ll, cc, rfl⟩ := own_slice hown4
  clear htag hm4 hT4 hown4 hx hrd4 hres HROW3 HB3 HS3 HT3 HRD
  go_wp2_with fail
  go_at_call 20
  refine hnew.mono ?_
  rintro e w5 ⟨hb5, v5, rfl, hown5⟩
  obtain ⟨aa5, ll5, cc5, rfl⟩ := own_slice hown5
  have hs5 := hb5.size
  have hm5 : Mod (fun _ => False) w4 w5 := Mod.of_below hb5 _
  have HROW5 : Hid (Row w5 V #[.int .i64 0, .int .i64 0, .slice none 0 0, .slice none 0 0] 33) := Lib.hid (HROW4.out.keep hm5 (fun h => h))
  have HB5 := Lib.hid (HB4.out.trans (hm5.below_of (N := V) (by omega) (fun _ _ h => h)))
  have HRD5 := Lib.hid (HRD4.out.keep (hb5.block r (by omega)) (hb5.block g (by omega)))
  have HT5 := Lib.hid (HC0.out.mono (base := lo) (Nat.le_refl lo) (hm5.below_of (by omega) (fun _ _ h => h)) HT4.out)
  have HOW5 := Lib.hid (own_base hown5 (B' := V) (by omega))
  clear hb5 hown5 hm5 HROW4 HB4 HRD4 HT4 hnew
  have z0 : w5.cell? ⟨V, 0, none⟩ = some (.int .i64 0) := HROW5.out.cell rfl
  have z1 : w5.cell? ⟨V, 1, none⟩ = some (.int .i64 0) := HROW5.out.cell rfl
  have z2 : w5.cell? ⟨V, 2, none⟩ = some (.slice none 0 0) := HROW5.out.cell rfl
  have z3 : w5.cell? ⟨V, 3, none⟩ = some (.slice none 0 0) := HROW5.out.cell rfl
  have zf := HROW5.out.frozen
  go_upto_region 6 with (fail)
  have hW : Mod (· = V) w5 _ := ((((Mod.refl (· = V) w5).set1 (j := 0) (.int .i64 1)).set1 (j := 1) (.int .i64 (d : Int))).set1 (j := 2) (.slice aa5 ll5 cc5)).set1 (j := 3) (.slice none 0 0)
  have hr6 : Row _ V _ 33 := ((((HROW5.out.set 0 (.int .i64 1)).set 1 (.int .i64 (d : Int))).set 2 (.slice aa5 ll5 cc5)).set 3 (.slice none 0 0))
  have HROW6 := Lib.hid hr6
  have HB6 := Lib.hid (HB5.out.trans (hW.below_of (N := V) (by omega) (fun k hk e => by omega)))
  have HT6 := Lib.hid (HC0.out.mono (base := lo) (Nat.le_refl lo) (hW.below_of (by omega) (fun k hk e => by omega)) HT5.out)
  have HR6 := Lib.hid (HRD5.out.keep (hW.block r (by omega) (by omega)) (hW.block g (by omega) (by omega)))
  have HOW6 := Lib.hid (own_far_cells HOW5.out HROW5.out (by decide) (w' := ((((w5.setCell ⟨V, 0, none⟩ (.int .i64 1)).setCell ⟨V, 1, none⟩ (.int .i64 (d : Int))).setCell ⟨V, 2, none⟩ (.slice aa5 ll5 cc5)).setCell ⟨V, 3, none⟩ (.slice none 0 0))) (fun k hk => by rw [heap_setCell_other _ _ _ _ hk, heap_setCell_other _ _ _ _ hk, heap_setCell_other _ _ _ _ hk, heap_setCell_other _ _ _ _ hk]))
  have HS6 := Lib.hid hW.size
  clear hW hr6 HROW5 HB5 HT5 HRD5 HOW5 z0 z1 z2 z3 zf
  generalize ((((w5.setCell ⟨V, 0, none⟩ (.int .i64 1)).setCell ⟨V, 1, none⟩ (.int .i64 (d : Int))).setCell ⟨V, 2, none⟩ (.slice aa5 ll5 cc5)).setCell ⟨V, 3, none⟩ (.slice none 0 0)) = w6 at *
  have hs6 := HS6.out
  have q0 : w6.cell? ⟨r, 0, none⟩ = some (.slice (some ⟨g, o4, none⟩) m4 c4) := HR6.out.row.cell (j := 0) rfl
  have q1 : w6.cell? ⟨r, 1, none⟩ = some (.bool bad) := HR6.out.row.cell (j := 1) rfl
  have qf := HR6.out.row.frozen
  have z0 : w6.cell? ⟨V, 0, none⟩ = some (.int .i64 1) := HROW6.out.cell rfl
  have z1 : w6.cell? ⟨V, 1, none⟩ = some (.int .i64 (d : Int)) := HROW6.out.cell rfl
  have z2 : w6.cell? ⟨V, 2, none⟩ = some (.slice aa5 ll5 cc5) := HROW6.out.cell rfl
  have z3 : w6.cell? ⟨V, 3, none⟩ = some (.slice none 0 0) := HROW6.out.cell rfl
  have zf := HROW6.out.frozen
  have hlen4 := HR6.out.len
  have hVV : w.heap.size = V := hV
  by_cases hok : bad = false ∧ m4 = 0
  · obtain ⟨rfl, rfl⟩ := hok
    have hts0 : ts' = [] := List.length_eq_zero_iff.1 hlen4.symm
    clear hlen4
    go_wp2_with fail
    have hend : Row _ V _ 33 := ((((HROW6.out.set 0 (.int .i64 1)).set 1 (.int .i64 (d : Int))).set 2 (.slice aa5 ll5 cc5)).set 3 (.slice none 0 0))
    refine bodyPost_ret (results_ct rfl _ _ V 33 _ (0, 0) rfl hend Tryz.underlying33 info33) rfl ?_
    have hW : Mod (· = V) w6 _ := ((((Mod.refl (· = V) w6).set1 (j := 0) (.int .i64 1)).set1 (j := 1) (.int .i64 (d : Int))).set1 (j := 2) (.slice aa5 ll5 cc5)).set1 (j := 3) (.slice none 0 0)
    refine ⟨?_, HC0.out.mono (base := lo) (Nat.le_refl lo) (hW.below_of (by omega) (fun k hk e => by omega)) HT6.out, .inr ?_⟩
    · rw [hV]; exact HB6.out.trans (hW.below_of (N := V) (by omega) (fun k hk e => by omega))
    · rcases HRES.out with ⟨_, o, ho, hxo⟩ | ⟨hbad, _⟩
      · refine ⟨o, _, ?_, rfl, ?_⟩
        · rw [spec_body, ho, Option.bind_some]; exact if_pos hts0
        · rw [← hxo, hV]
          exact own_far_cells HOW6.out HROW6.out (by decide) (fun k hk => by rw [heap_setCell_other _ _ _ _ hk, heap_setCell_other _ _ _ _ hk, heap_setCell_other _ _ _ _ hk, heap_setCell_other _ _ _ _ hk])
      · exact absurd hbad (by decide)
  · have HNO : Hid (specRead PF (wid d) B = none) := Lib.hid (by
      rw [spec_body]
      rcases HRES.out with ⟨hb, o, ho, hxo⟩ | ⟨_, hb⟩
      · rw [ho, Option.bind_some]
        exact if_neg (fun e => hok ⟨hb, hlen4.trans (congrArg List.length (show ts' = [] from e))⟩)
      · rw [hb]; rfl)
    have hcase : bad = true ∨ bad = false ∧ (0 : Int) < (m4 : Int) := by
      cases bad with
      | true => exact .inl rfl
      | false => exact .inr ⟨rfl, by rcases Nat.eq_zero_or_pos m4 with e | e; exact absurd ⟨rfl, e⟩ hok; omega⟩
    clear hok hlen4
    rcases hcase with rfl | ⟨rfl, hm0⟩
    all_goals
      go_wp2_with fail
      have hend : Row _ V _ 33 := ((((HROW6.out.set 0 (.int .i64 0)).set 1 (.int .i64 0)).set 2 (.slice none 0 0)).set 3 (.slice none 0 0))
      refine bodyPost_ret (results_ct rfl _ _ V 33 _ (0, 0) rfl hend Tryz.underlying33 info33) rfl ?_
      have hW : Mod (· = V) w6 _ := ((((Mod.refl (· = V) w6).set1 (j := 0) (.int .i64 0)).set1 (j := 1) (.int .i64 0)).set1 (j := 2) (.slice none 0 0)).set1 (j := 3) (.slice none 0 0)
      refine ⟨?_, HC0.out.mono (base := lo) (Nat.le_refl lo) (hW.below_of (by omega) (fun k hk e => by omega)) HT6.out, .inl ⟨HNO.out, rfl⟩⟩
      rw [hV]; exact HB6.out.trans (hW.below_of (N := V) (by omega) (fun k hk e => by omega))
end Go.Proofs.YtadpeebcombjnaaGreatDoor
