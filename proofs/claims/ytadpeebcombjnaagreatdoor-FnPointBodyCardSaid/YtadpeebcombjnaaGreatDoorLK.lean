/- impl.ReadPointBody: what it answers. -/
import Derived.Test.YtadpeebcombjnaaGreatDoorLJ
namespace Go.Proofs.YtadpeebcombjnaaGreatDoor
open Go Go.Proofs Go.RowKit Go.Lib
set_option maxRecDepth 100000
def RPost (PF : List UInt8 → Option Nat) (d : Nat) (ts : List Tok) (w : World) (e : Ending) (w' : World) : Prop :=
  Below w.heap.size w w' ∧ ((progRead PF (wid d) ts = none ∧ e = .returned (.tuple #[.agg #[.int .i64 0, .int .i64 0, .slice none 0 0, .slice none 0 0], .bool false])) ∨
    ∃ o v xs, progRead PF (wid d) ts = some o ∧ xs = o.getD [] ∧ e = .returned (.tuple #[.agg #[.int .i64 1, .int .i64 (d : Int), v, .slice none 0 0], .bool true]) ∧ w'.ownsRow w.heap.size 38 1 v xs.length (xs.map fl))
theorem nums_coords {d : Nat} {xs : List Nat} (h : xs.length = wid d) : numsOf d (xs.getD 0 0) (xs.getD 1 0) (if d3 d then xs.getD 2 0 else 0) (if dm d then (if d3 d then xs.getD 3 0 else xs.getD 2 0) else 0) = xs := by
  unfold wid at h
  unfold numsOf
  cases h3 : d3 d <;> cases hm : dm d <;> rw [h3, hm] at h
  · match xs, h with
    | [a, b], _ => rfl
  · match xs, h with
    | [a, b, c], _ => rfl
  · match xs, h with
    | [a, b, c], _ => rfl
  · match xs, h with
    | [a, b, c, e], _ => rfl
theorem own_far_cells {w : World} {B n V : Nat} {v : Value} {xs : List Value} {C : Array Value} {t : TypeId} (h : w.ownsRow B 38 1 v n xs) (hr : Row w V C t) (ht : t ≠ 38) {w' : World} (hk : ∀ g, g ≠ V → w'.heap[g]? = w.heap[g]?) : w'.ownsRow B 38 1 v n xs := by
  obtain ⟨e1, e2⟩ := h
  refine ⟨e1, ?_⟩
  rcases e2 with e2 | ⟨g, cap, cur, hv, hgB, hh, r⟩
  · exact .inl e2
  · refine .inr ⟨g, cap, cur, hv, hgB, (hk g ?_).trans hh, r⟩
    rintro rfl
    have e := hh.symm.trans hr
    injection e with e
    injection e with _ e2
    exact ht e2.symm
theorem own_base {w : World} {B B' n : Nat} {v : Value} {xs : List Value} (h : w.ownsRow B 38 1 v n xs) (hB : B' ≤ B) : w.ownsRow B' 38 1 v n xs := by
  obtain ⟨e1, e2⟩ := h
  refine ⟨e1, ?_⟩
  rcases e2 with e2 | ⟨g, cap, cur, hv, hgB, hh, r⟩
  · exact .inl e2
  · exact .inr ⟨g, cap, cur, hv, Nat.le_trans hB hgB, hh, r⟩
set_option maxHeartbeats 4000000 in
theorem readBody_any {lo : Nat} {T : World → Prop} {PF : List UInt8 → Option Nat} (C0 : PFC lo T PF) {s : ByteArray} {w : World} {d : Nat} (hd : d < 4) (hT : T w) (hlo : lo ≤ w.heap.size) (hgl : Gl w) (hx : ∃ x, w.cell? ⟨1, 0, none⟩ = some (.string x)) (hsz : s.size ≤ 2000)
    {ts : List Tok} (ht : toksAt (By s) false = some ts) (hz : ∀ t ∈ ts, t.1 = 49 → ∀ r, t.2 = 48 :: r → digN r = 0) :
    Calls Tryz.prog 5 #[.string s, .int .i64 (d : Nat)] w (RPost PF d ts w) := by
  obtain ⟨V, hV⟩ : ∃ V, w.heap.size = V := ⟨_, rfl⟩
  have hst := store_f
  have hdim := fun wx => dimOf_any d hd wx
  have hB0 : Below V w (w.alloc (.cells #[.int .i64 0, .int .i64 0, .slice none 0 0, .slice none 0 0] 33)) := (Below.refl V w).alloc (by omega) _
  have hrow0 : Row (w.alloc (.cells #[.int .i64 0, .int .i64 0, .slice none 0 0, .slice none 0 0] 33)) V #[.int .i64 0, .int .i64 0, .slice none 0 0, .slice none 0 0] 33 := hV ▸ Row.new w _ 33
  have hs0 : (w.alloc (.cells #[.int .i64 0, .int .i64 0, .slice none 0 0, .slice none 0 0] 33)).heap.size = V + 1 := by simp [hV]
  rw [hV] at hlo
  have hlow : 24 ≤ V := Nat.le_trans C0.low hlo
  have hgl0 : Gl (w.alloc (.cells #[.int .i64 0, .int .i64 0, .slice none 0 0, .slice none 0 0] 33)) := hgl.mono hB0 hlow
  have hx0 : ∃ x, (w.alloc (.cells #[.int .i64 0, .int .i64 0, .slice none 0 0, .slice none 0 0] 33)).cell? ⟨1, 0, none⟩ = some (.string x) := hx.imp fun x hx => low_cell hB0 (by omega) hx
  have hdoor := door_any C0 hd (C0.mono hlo hB0 hT) (by rw [hs0]; omega) hgl0 hx0 hsz ht hz
  have H := Lib.hid (And.intro hB0 (And.intro hrow0 hs0))
  clear hB0 hrow0 hs0 hgl0 hx0 ht hz hgl hx hT hsz
  go_enter Tryz.func5, Tryz.ntmps5
  go_wp2_with (go_at_call 13; refine (hdim _).mono ?_; rintro _ _ ⟨rfl, rfl⟩)
  generalize w.alloc (.cells #[.int .i64 0, .int .i64 0, .slice none 0 0, .slice none 0 0] 33) = W at *
  go_at_call 12
  refine hdoor.mono ?_
  rintro e w1 ⟨hb1, hres⟩
  obtain ⟨hB0, hrow0, hs0⟩ := H.out
  have hb1V : Below V w w1 := hB0.trans ⟨hb1.os, hb1.tape, hb1.output, hb1.size, fun k hk => hb1.block k (by omega)⟩
  have hrow1 : Row w1 V #[.int .i64 0, .int .i64 0, .slice none 0 0, .slice none 0 0] 33 := (hb1.block V (by omega)).trans hrow0
  obtain ⟨P, hP⟩ : ∃ P, w1.heap.size = P := ⟨_, rfl⟩
  have hPV : V + 1 ≤ P := by have := hb1.size; omega
  clear hdoor H hb1 hB0 hrow0 hs0
  rcases hres with ⟨hn, v, ⟨vt, vd, rfl⟩, rfl⟩ | ⟨hn, rfl⟩ | ⟨xs, hn, hxl, he⟩
  · have hr := hrow1.alloc (.cells #[.float .f64 0, .float .f64 0, .float .f64 0, .float .f64 0, .int .u8 0] 43)
    have hbA : Below V w (w1.alloc (.cells #[.float .f64 0, .float .f64 0, .float .f64 0, .float .f64 0, .int .u8 0] 43)) := hb1V.alloc (by omega) _
    have c0 : (w1.alloc (.cells #[.float .f64 0, .float .f64 0, .float .f64 0, .float .f64 0, .int .u8 0] 43)).cell? ⟨V, 0, none⟩ = some (.int .i64 0) := hr.cell rfl
    have c1 : (w1.alloc (.cells #[.float .f64 0, .float .f64 0, .float .f64 0, .float .f64 0, .int .u8 0] 43)).cell? ⟨V, 1, none⟩ = some (.int .i64 0) := hr.cell rfl
    have c2 : (w1.alloc (.cells #[.float .f64 0, .float .f64 0, .float .f64 0, .float .f64 0, .int .u8 0] 43)).cell? ⟨V, 2, none⟩ = some (.slice none 0 0) := hr.cell rfl
    have c3 : (w1.alloc (.cells #[.float .f64 0, .float .f64 0, .float .f64 0, .float .f64 0, .int .u8 0] 43)).cell? ⟨V, 3, none⟩ = some (.slice none 0 0) := hr.cell rfl
    have cf := hr.frozen
    have HR := Lib.hid hr
    have HB := Lib.hid hbA
    have HN := Lib.hid hn
    clear hr hbA hn hrow1 hb1V
    go_wp2_with fail
    have hend := ((((HR.out.set 0 (.int .i64 0)).set 1 (.int .i64 0)).set 2 (.slice none 0 0)).set 3 (.slice none 0 0))
    refine bodyPost_ret (results_ct rfl _ _ V 33 _ (0, 0) rfl hend Tryz.underlying33 info33) rfl ?_
    exact ⟨by rw [hV]; exact ((((HB.out.setCell (p := ⟨V, 0, none⟩) (Nat.le_refl V) (.int .i64 0)).setCell (p := ⟨V, 1, none⟩) (Nat.le_refl V) (.int .i64 0)).setCell (p := ⟨V, 2, none⟩) (Nat.le_refl V) (.slice none 0 0)).setCell (p := ⟨V, 3, none⟩) (Nat.le_refl V) (.slice none 0 0)), .inl ⟨HN.out, rfl⟩⟩
  · skip
    have hr := hrow1.alloc (.cells #[.float .f64 0, .float .f64 0, .float .f64 0, .float .f64 0, .int .u8 0] 43)
    have hbA : Below V w (w1.alloc (.cells #[.float .f64 0, .float .f64 0, .float .f64 0, .float .f64 0, .int .u8 0] 43)) := hb1V.alloc (by omega) _
    have hsA : (w1.alloc (.cells #[.float .f64 0, .float .f64 0, .float .f64 0, .float .f64 0, .int .u8 0] 43)).heap.size = P + 1 := by simp [hP]
    have hrP : Row (w1.alloc (.cells #[.float .f64 0, .float .f64 0, .float .f64 0, .float .f64 0, .int .u8 0] 43)) P #[.float .f64 0, .float .f64 0, .float .f64 0, .float .f64 0, .int .u8 0] 43 := hP ▸ Row.new w1 _ 43
    have p0 : (w1.alloc (.cells #[.float .f64 0, .float .f64 0, .float .f64 0, .float .f64 0, .int .u8 0] 43)).cell? ⟨P, 0, none⟩ = some (.float .f64 0) := hrP.cell rfl
    have p1 : (w1.alloc (.cells #[.float .f64 0, .float .f64 0, .float .f64 0, .float .f64 0, .int .u8 0] 43)).cell? ⟨P, 1, none⟩ = some (.float .f64 0) := hrP.cell rfl
    have p2 : (w1.alloc (.cells #[.float .f64 0, .float .f64 0, .float .f64 0, .float .f64 0, .int .u8 0] 43)).cell? ⟨P, 2, none⟩ = some (.float .f64 0) := hrP.cell rfl
    have p3 : (w1.alloc (.cells #[.float .f64 0, .float .f64 0, .float .f64 0, .float .f64 0, .int .u8 0] 43)).cell? ⟨P, 3, none⟩ = some (.float .f64 0) := hrP.cell rfl
    have p4 : (w1.alloc (.cells #[.float .f64 0, .float .f64 0, .float .f64 0, .float .f64 0, .int .u8 0] 43)).cell? ⟨P, 4, none⟩ = some (.int .u8 0) := hrP.cell rfl
    have pf := hrP.frozen
    have HR := Lib.hid hr
    have HB := Lib.hid hbA
    have HS := Lib.hid hsA
    have HN := Lib.hid hn
    clear hr hbA hn hrow1 hb1V hsA hrP
    go_wp2_with (go_at_call 13; refine (hdim _).mono ?_; rintro _ _ ⟨rfl, rfl⟩)
    generalize w1.alloc (.cells #[.float .f64 0, .float .f64 0, .float .f64 0, .float .f64 0, .int .u8 0] 43) = WA at *
    clear p0 p1 p2 p3 p4 pf
    go_at_call 15
    refine (empty_any (d : Int) WA).mono ?_
    rintro e w2 ⟨hb2, rfl⟩
    have hr2 : Row w2 V #[.int .i64 0, .int .i64 0, .slice none 0 0, .slice none 0 0] 33 := (hb2.block V (by have := HS.out; omega)).trans HR.out
    have hb2V : Below V w w2 := HB.out.trans ⟨hb2.os, hb2.tape, hb2.output, hb2.size, fun k hk => hb2.block k (by have := HS.out; omega)⟩
    have hs2 : V + 1 ≤ w2.heap.size := by have := hb2.size; have := HS.out; omega
    have HR2 := Lib.hid hr2
    have HB2 := Lib.hid hb2V
    clear hr2 hb2V hb2 HR HB HS
    go_wp2_with fail
    go_at_call 14
    refine (plain_any 0 0 0 0 d hd false w2).mono ?_
    rintro e w3 ⟨hb3, v, xs3, rfl, hxs, hown⟩
    obtain ⟨sa, sl, sc, rfl⟩ := own_slice hown
    have hr3 : Row w3 V #[.int .i64 0, .int .i64 0, .slice none 0 0, .slice none 0 0] 33 := (hb3.block V (by omega)).trans HR2.out
    have c0 : w3.cell? ⟨V, 0, none⟩ = some (.int .i64 0) := hr3.cell rfl
    have c1 : w3.cell? ⟨V, 1, none⟩ = some (.int .i64 0) := hr3.cell rfl
    have c2 : w3.cell? ⟨V, 2, none⟩ = some (.slice none 0 0) := hr3.cell rfl
    have c3 : w3.cell? ⟨V, 3, none⟩ = some (.slice none 0 0) := hr3.cell rfl
    have cf := hr3.frozen
    have HR3 := Lib.hid hr3
    have HB3 : Hid (Below V w w3) := Lib.hid (HB2.out.trans ⟨hb3.os, hb3.tape, hb3.output, hb3.size, fun k hk => hb3.block k (by omega)⟩)
    have HO := Lib.hid hown
    have HX := Lib.hid hxs
    clear hr3 hb3 hown hxs HR2 HB2
    go_wp2_with fail
    have hend := ((((HR3.out.set 0 (.int .i64 1)).set 1 (.int .i64 (d : Int))).set 2 (.slice sa sl sc)).set 3 (.slice none 0 0))
    refine bodyPost_ret (results_ct rfl _ _ V 33 _ (0, 0) rfl hend Tryz.underlying33 info33) rfl ?_
    refine ⟨by rw [hV]; exact ((((HB3.out.setCell (p := ⟨V, 0, none⟩) (Nat.le_refl V) (.int .i64 1)).setCell (p := ⟨V, 1, none⟩) (Nat.le_refl V) (.int .i64 (d : Int))).setCell (p := ⟨V, 2, none⟩) (Nat.le_refl V) (.slice sa sl sc)).setCell (p := ⟨V, 3, none⟩) (Nat.le_refl V) (.slice none 0 0)), .inr ⟨none, _, xs3, HN.out, ?_, rfl, ?_⟩⟩
    · rw [HX.out]; rfl
    · rw [hV]
      refine own_base (own_far_cells HO.out HR3.out (by decide) fun g hg => ?_) (by omega)
      rw [set_oth _ _ _ _ _ hg, set_oth _ _ _ _ _ hg, set_oth _ _ _ _ _ hg, set_oth _ _ _ _ _ hg]
  · obtain ⟨y0, y1, y2, y3, hco, hnu⟩ : ∃ y0 y1 y2 y3 : Nat, coords d xs = #[.float .f64 y0, .float .f64 y1, .float .f64 y2, .float .f64 y3, .int .u8 (d : Int)] ∧ numsOf d y0 y1 y2 y3 = xs := ⟨_, _, _, _, rfl, nums_coords hxl⟩
    rw [hco] at he
    subst he
    have HNU := Lib.hid hnu
    clear hnu hco hxl
    have hr := hrow1.alloc (.cells #[.float .f64 y0, .float .f64 y1, .float .f64 y2, .float .f64 y3, .int .u8 (d : Int)] 43)
    have hbA : Below V w (w1.alloc (.cells #[.float .f64 y0, .float .f64 y1, .float .f64 y2, .float .f64 y3, .int .u8 (d : Int)] 43)) := hb1V.alloc (by omega) _
    have hsA : (w1.alloc (.cells #[.float .f64 y0, .float .f64 y1, .float .f64 y2, .float .f64 y3, .int .u8 (d : Int)] 43)).heap.size = P + 1 := by simp [hP]
    have hrP : Row (w1.alloc (.cells #[.float .f64 y0, .float .f64 y1, .float .f64 y2, .float .f64 y3, .int .u8 (d : Int)] 43)) P #[.float .f64 y0, .float .f64 y1, .float .f64 y2, .float .f64 y3, .int .u8 (d : Int)] 43 := hP ▸ Row.new w1 _ 43
    have p0 : (w1.alloc (.cells #[.float .f64 y0, .float .f64 y1, .float .f64 y2, .float .f64 y3, .int .u8 (d : Int)] 43)).cell? ⟨P, 0, none⟩ = some (.float .f64 y0) := hrP.cell rfl
    have p1 : (w1.alloc (.cells #[.float .f64 y0, .float .f64 y1, .float .f64 y2, .float .f64 y3, .int .u8 (d : Int)] 43)).cell? ⟨P, 1, none⟩ = some (.float .f64 y1) := hrP.cell rfl
    have p2 : (w1.alloc (.cells #[.float .f64 y0, .float .f64 y1, .float .f64 y2, .float .f64 y3, .int .u8 (d : Int)] 43)).cell? ⟨P, 2, none⟩ = some (.float .f64 y2) := hrP.cell rfl
    have p3 : (w1.alloc (.cells #[.float .f64 y0, .float .f64 y1, .float .f64 y2, .float .f64 y3, .int .u8 (d : Int)] 43)).cell? ⟨P, 3, none⟩ = some (.float .f64 y3) := hrP.cell rfl
    have p4 : (w1.alloc (.cells #[.float .f64 y0, .float .f64 y1, .float .f64 y2, .float .f64 y3, .int .u8 (d : Int)] 43)).cell? ⟨P, 4, none⟩ = some (.int .u8 (d : Int)) := hrP.cell rfl
    have pf := hrP.frozen
    have HR := Lib.hid hr
    have HB := Lib.hid hbA
    have HS := Lib.hid hsA
    have HN := Lib.hid hn
    clear hr hbA hn hrow1 hb1V hsA hrP
    go_wp2_with (go_at_call 13; refine (hdim _).mono ?_; rintro _ _ ⟨rfl, rfl⟩)
    generalize w1.alloc (.cells #[.float .f64 y0, .float .f64 y1, .float .f64 y2, .float .f64 y3, .int .u8 (d : Int)] 43) = WA at *
    clear p0 p1 p2 p3 p4 pf
    go_at_call 16
    refine (new_any y0 y1 y2 y3 (d : Int) WA).mono ?_
    rintro e w2 ⟨hb2, rfl⟩
    have hr2 : Row w2 V #[.int .i64 0, .int .i64 0, .slice none 0 0, .slice none 0 0] 33 := (hb2.block V (by have := HS.out; omega)).trans HR.out
    have hb2V : Below V w w2 := HB.out.trans ⟨hb2.os, hb2.tape, hb2.output, hb2.size, fun k hk => hb2.block k (by have := HS.out; omega)⟩
    have hs2 : V + 1 ≤ w2.heap.size := by have := hb2.size; have := HS.out; omega
    have HR2 := Lib.hid hr2
    have HB2 := Lib.hid hb2V
    clear hr2 hb2V hb2 HR HB HS
    go_wp2_with fail
    go_at_call 14
    refine (plain_any y0 y1 y2 y3 d hd true w2).mono ?_
    rintro e w3 ⟨hb3, v, xs3, rfl, hxs, hown⟩
    obtain ⟨sa, sl, sc, rfl⟩ := own_slice hown
    have hr3 : Row w3 V #[.int .i64 0, .int .i64 0, .slice none 0 0, .slice none 0 0] 33 := (hb3.block V (by omega)).trans HR2.out
    have c0 : w3.cell? ⟨V, 0, none⟩ = some (.int .i64 0) := hr3.cell rfl
    have c1 : w3.cell? ⟨V, 1, none⟩ = some (.int .i64 0) := hr3.cell rfl
    have c2 : w3.cell? ⟨V, 2, none⟩ = some (.slice none 0 0) := hr3.cell rfl
    have c3 : w3.cell? ⟨V, 3, none⟩ = some (.slice none 0 0) := hr3.cell rfl
    have cf := hr3.frozen
    have HR3 := Lib.hid hr3
    have HB3 : Hid (Below V w w3) := Lib.hid (HB2.out.trans ⟨hb3.os, hb3.tape, hb3.output, hb3.size, fun k hk => hb3.block k (by omega)⟩)
    have HO := Lib.hid hown
    have HX := Lib.hid hxs
    clear hr3 hb3 hown hxs HR2 HB2
    go_wp2_with fail
    have hend := ((((HR3.out.set 0 (.int .i64 1)).set 1 (.int .i64 (d : Int))).set 2 (.slice sa sl sc)).set 3 (.slice none 0 0))
    refine bodyPost_ret (results_ct rfl _ _ V 33 _ (0, 0) rfl hend Tryz.underlying33 info33) rfl ?_
    refine ⟨by rw [hV]; exact ((((HB3.out.setCell (p := ⟨V, 0, none⟩) (Nat.le_refl V) (.int .i64 1)).setCell (p := ⟨V, 1, none⟩) (Nat.le_refl V) (.int .i64 (d : Int))).setCell (p := ⟨V, 2, none⟩) (Nat.le_refl V) (.slice sa sl sc)).setCell (p := ⟨V, 3, none⟩) (Nat.le_refl V) (.slice none 0 0)), .inr ⟨(some xs), _, xs3, HN.out, ?_, rfl, ?_⟩⟩
    · rw [HX.out]; exact HNU.out
    · rw [hV]
      refine own_base (own_far_cells HO.out HR3.out (by decide) fun g hg => ?_) (by omega)
      rw [set_oth _ _ _ _ _ hg, set_oth _ _ _ _ _ hg, set_oth _ _ _ _ _ hg, set_oth _ _ _ _ _ hg]
end Go.Proofs.YtadpeebcombjnaaGreatDoor
