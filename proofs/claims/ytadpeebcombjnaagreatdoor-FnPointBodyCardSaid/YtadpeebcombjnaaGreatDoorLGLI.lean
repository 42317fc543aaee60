/- The parser's point: its numbers, and the body of a point. -/
import Derived.Test.YtadpeebcombjnaaGreatDoorLFLE
import Derived.Test.YtadpeebcombjnaaGreatDoorPQ4
namespace Go.Proofs.YtadpeebcombjnaaGreatDoor
open Go Go.Proofs Go.RowKit Go.Lib
set_option maxRecDepth 100000
theorem Ready.setV {base B R V j : Nat} {s : ByteArray} {w : World} {k : Nat} {C : Array Value} {t : TypeId} (h : Ready base B R s w k) (hV : base ≤ V) (hB : V ≠ B) (hR : V ≠ R) (hr : Row w V C t) (ht : t ≠ 5) (v : Value) : Ready base B R s (w.setCell ⟨V, j, none⟩ v) k := by
  refine h.keep ((Below.refl base w).setCell (p := ⟨V, j, none⟩) hV v) (set_oth _ _ _ _ _ (fun e => hB e.symm)) (set_oth _ _ _ _ _ (fun e => hR e.symm)) (fun g D hg => (set_oth _ _ _ _ _ ?_).trans hg)
  rintro rfl
  have e := hg.symm.trans hr
  injection e with e
  injection e with _ e2
  exact ht e2.symm
theorem Ready.alloc {base B R : Nat} {s : ByteArray} {w : World} {k : Nat} (h : Ready base B R s w k) (o : Obj) : Ready base B R s (w.alloc o) k :=
  h.below ((Below.refl _ w).alloc (Nat.le_refl _) o)
/-- In the midst of a point: what has been read lies in block V2. -/
structure NS (lo : Nat) (T : World → Prop) (base B R : Nat) (s : ByteArray) (ts : List Tok) (w0 : World) (V1 V2 : Nat) (Z C : Array Value) (w : World) (r : List Tok) : Prop where
  fr : Fr base B R w0 w
  r1 : Row w V1 Z 43
  r2 : Row w V2 C 43
  glob : T w
  rest : ∃ n j' u, Ready base B R s w n ∧ toksAt ((By s).drop n) j' = some r ∧ ts = u ++ r
  hlo : lo ≤ base
  v1 : base ≤ V1 ∧ V1 ≠ B ∧ V1 ≠ R
  v2 : base ≤ V2 ∧ V2 ≠ B ∧ V2 ≠ R ∧ V2 ≠ V1 ∧ w0.heap.size ≤ V2 ∧ w0.heap.size ≤ V1
theorem row43 {w w' : World} {base B R V : Nat} {C : Array Value} (h : Fr base B R w w') (hr : Row w V C 43) (hB : V ≠ B) (hR : V ≠ R) : Row w' V C 43 :=
  h.keep V _ hr hB hR (fun c f e => by injection e with _ e2; exact absurd e2 (by decide))
theorem NS.num {lo : Nat} {T : World → Prop} {PF : List UInt8 → Option Nat} (C0 : PFC lo T PF) {base B R : Nat} {s : ByteArray} {ts : List Tok} {w0 : World} {V1 V2 : Nat} {Z C : Array Value} {w : World} {r : List Tok} (h : NS lo T base B R s ts w0 V1 V2 Z C w r)
    (hz : ∀ t ∈ ts, t.1 = 49 → ∀ r, t.2 = 48 :: r → digN r = 0) (hg : ∀ t ∈ ts, Good t) :
    Calls Tryz.prog 57 #[.pointer (some ⟨B, 0, none⟩)] w fun e w' => (numP PF r = none ∧ Fr base B R w0 w' ∧ Row w' V1 Z 43 ∧ Row w' V2 C 43 ∧ ∃ x v, IsErr v ∧ e = .returned (.tuple #[.float .f64 x, v])) ∨
      ∃ x r', numP PF r = some (x, r') ∧ e = .returned (.tuple #[.float .f64 x, .nilIface]) ∧ NS lo T base B R s ts w0 V1 V2 Z C w' r' := by
  obtain ⟨n, j', u, h1, h2, h3⟩ := h.rest
  refine (num_any C0 h.hlo h.glob h1 h2 (fun t ht => hz t (by rw [h3]; exact List.mem_append_right _ ht)) (fun t ht => hg t (by rw [h3]; exact List.mem_append_right _ ht))).mono ?_
  rintro e w' ⟨hF, ⟨hn, x, v, hv, rfl⟩ | ⟨x, r', hn, rfl, n2, j2, u2, g1, g2, g3⟩⟩
  · exact .inl ⟨hn, h.fr.trans hF, row43 hF h.r1 h.v1.2.1 h.v1.2.2, row43 hF h.r2 h.v2.2.1 h.v2.2.2.1, x, v, hv, rfl⟩
  · exact .inr ⟨x, r', hn, rfl, h.fr.trans hF, row43 hF h.r1 h.v1.2.1 h.v1.2.2, row43 hF h.r2 h.v2.2.1 h.v2.2.2.1, C0.mono h.hlo hF.below h.glob, ⟨n2, j2, u ++ u2, g1, g2, by rw [h3, g3, List.append_assoc]⟩, h.hlo, h.v1, h.v2⟩
theorem Fr.setNew {base B R V j : Nat} {a b : World} (h : Fr base B R a b) (hV : base ≤ V) (hn : a.heap.size ≤ V) (v : Value) : Fr base B R a (b.setCell ⟨V, j, none⟩ v) :=
  ⟨h.below.setCell (p := ⟨V, j, none⟩) hV v, fun k o hk h1 h2 h3 => (heap_setCell_other b ⟨V, j, none⟩ k v (by have := lt_of_row hk; intro e; simp at e; omega)).trans (h.keep k o hk h1 h2 h3)⟩
theorem NS.set {lo : Nat} {T : World → Prop} {PF : List UInt8 → Option Nat} (C0 : PFC lo T PF) {base B R : Nat} {s : ByteArray} {ts : List Tok} {w0 : World} {V1 V2 : Nat} {Z C : Array Value} {w : World} {r : List Tok} (h : NS lo T base B R s ts w0 V1 V2 Z C w r) (j : Nat) (v : Value) :
    NS lo T base B R s ts w0 V1 V2 Z (C.setIfInBounds j v) (w.setCell ⟨V2, j, none⟩ v) r := by
  obtain ⟨n, j', u, h1, h2, h3⟩ := h.rest
  have hlow := h.hlo
  exact ⟨h.fr.setNew h.v2.1 h.v2.2.2.2.2.1 v, h.r1.far (fun e => h.v2.2.2.2.1 e.symm) v, h.r2.set j v, C0.mono hlow ((Below.refl base w).setCell (p := ⟨V2, j, none⟩) h.v2.1 v) h.glob, ⟨n, j', u, h1.setV h.v2.1 h.v2.2.1 h.v2.2.2.1 h.r2 (by decide) v, h2, h3⟩, h.hlo, h.v1, h.v2⟩
def d3 (d : Nat) : Bool := decide (d % 2 = 1)
def dm (d : Nat) : Bool := decide (d / 2 % 2 = 1)
theorem is3_any (d : Nat) (hd : d < 4) (w : World) : Calls Tryz.prog 28 #[.int .u8 (d : Nat)] w fun e w' => e = .returned (.bool (d3 d)) ∧ w' = w := by
  have hb : bits BinOp.and IntKind.u8 (d : Int) 1 = ((d % 2 : Nat) : Int) := by
    have : ∀ n : Fin 4, bits BinOp.and IntKind.u8 (n.val : Int) 1 = ((n.val % 2 : Nat) : Int) := by decide
    exact this ⟨d, hd⟩
  have hq : (((d % 2 : Nat) : Int) != 0) = d3 d := by
    have : ∀ n : Fin 4, (((n.val % 2 : Nat) : Int) != 0) = d3 n.val := by decide
    exact this ⟨d, hd⟩
  obtain ⟨q, hq2⟩ : ∃ q : Bool, q = d3 d := ⟨_, rfl⟩
  rw [← hq2] at hq ⊢
  obtain ⟨z, hz⟩ : ∃ z : Int, ((d % 2 : Nat) : Int) = z := ⟨_, rfl⟩
  rw [hz] at hb hq
  have HQ := Lib.hid hq
  clear hz hq2 hq
  go_enter Tryz.func28, Tryz.ntmps28
  go_wp2
  go_ret
  exact ⟨by rw [← HQ.out]; rfl, rfl⟩
theorem ism_any (d : Nat) (hd : d < 4) (w : World) : Calls Tryz.prog 29 #[.int .u8 (d : Nat)] w fun e w' => e = .returned (.bool (dm d)) ∧ w' = w := by
  have hb : (bits BinOp.and IntKind.u8 (d : Int) 2 != 0) = dm d := by
    have : ∀ n : Fin 4, (bits BinOp.and IntKind.u8 (n.val : Int) 2 != 0) = dm n.val := by decide
    exact this ⟨d, hd⟩
  have HQ := Lib.hid hb
  clear hb
  go_enter Tryz.func29, Tryz.ntmps29
  go_wp2
  go_ret
  exact ⟨by rw [← HQ.out]; rfl, rfl⟩
theorem NS.setOut {lo : Nat} {T : World → Prop} {PF : List UInt8 → Option Nat} (C0 : PFC lo T PF) {base B R : Nat} {s : ByteArray} {ts : List Tok} {w0 : World} {V1 V2 : Nat} {Z C : Array Value} {w : World} {r : List Tok} (h : NS lo T base B R s ts w0 V1 V2 Z C w r) (j : Nat) (v : Value) :
    NS lo T base B R s ts w0 V1 V2 (Z.setIfInBounds j v) C (w.setCell ⟨V1, j, none⟩ v) r := by
  obtain ⟨n, j', u, h1, h2, h3⟩ := h.rest
  have hlow := h.hlo
  exact ⟨h.fr.setNew h.v1.1 h.v2.2.2.2.2.2 v, h.r1.set j v, h.r2.far (fun e => h.v2.2.2.2.1 e) v, C0.mono hlow ((Below.refl base w).setCell (p := ⟨V1, j, none⟩) h.v1.1 v) h.glob, ⟨n, j', u, h1.setV h.v1.1 h.v1.2.1 h.v1.2.2 h.r1 (by decide) v, h2, h3⟩, h.hlo, h.v1, h.v2⟩
theorem results_ct {fn : Func} {p u : Tmp} {ty : TypeId} (h : fn.results = #[.cell p ty, .tmp u]) (tmps : Array Value) (w : World) (g : Nat) (t : TypeId) (cs : Array Value) (fr : Nat × Nat) {fs : _}
    (hp : tmps.getD p undef = .pointer (some ⟨g, 0, none⟩)) (hg : w.heap[g]? = some (.cells cs t fr))
    (hu : Tryz.prog.underlying ty = some (.struct fs)) (hi : (Tryz.prog.info? ty).map (·.size) = some cs.size) :
    (results fn tmps).run Tryz.prog w = .ok (.tuple #[.agg cs, tmps.getD u undef]) w := by
  have hp' : tmps[p]?.getD undef = .pointer (some ⟨g, 0, none⟩) := by simpa using hp
  simp [results, h, hp', asAddr, run_loadVar_row w g t ty cs fr (.struct fs) hg hu rfl hi]
theorem info43 : (Tryz.prog.info? 43).map (·.size) = some 5 := by kernel_rfl
theorem store_f (a : Addr) (b : Nat) (m : Mode) (W : World) : (store a (.float .f64 b) m).run Tryz.prog W = stored Tryz.prog W a (.float .f64 b) m := run_store _ _ _ _ m rfl
/-- A point's cells by its numbers and type. -/
def coords (d : Nat) (xs : List Nat) : Array Value :=
  #[.float .f64 (xs.getD 0 0), .float .f64 (xs.getD 1 0), .float .f64 (if d3 d then xs.getD 2 0 else 0), .float .f64 (if dm d then (if d3 d then xs.getD 3 0 else xs.getD 2 0) else 0), .int .u8 (d : Int)]
def wid (d : Nat) : Nat := 2 + (if d3 d then 1 else 0) + (if dm d then 1 else 0)
def PointPost (T : World → Prop) (base B R : Nat) (s : ByteArray) (PF : List UInt8 → Option Nat) (d : Nat) (ts : List Tok) (w : World) (e : Ending) (w' : World) : Prop :=
  Fr base B R w w' ∧ ((numsP PF (wid d) ts = none ∧ ∃ v, IsErr v ∧ e = .returned (.tuple #[.agg #[.float .f64 0, .float .f64 0, .float .f64 0, .float .f64 0, .int .u8 0], v])) ∨
    ∃ xs r, numsP PF (wid d) ts = some (xs, r) ∧ xs.length = wid d ∧ e = .returned (.tuple #[.agg (coords d xs), .nilIface]) ∧ T w' ∧ ∃ n j' u, Ready base B R s w' n ∧ toksAt ((By s).drop n) j' = some r ∧ ts = u ++ r)
theorem nums2 {PF : List UInt8 → Option Nat} {n : Nat} {ts : List Tok} (h : numP PF ts = none) : numsP PF (n + 1) ts = none := by unfold numsP; rw [h]; rfl
theorem nums3 {PF : List UInt8 → Option Nat} {n x : Nat} {ts r : List Tok} (h : numP PF ts = some (x, r)) : numsP PF (n + 1) ts = (numsP PF n r).map fun q => (x :: q.1, q.2) := by rw [numsP, h]; rfl
set_option maxHeartbeats 2000000 in
theorem point_any {lo : Nat} {T : World → Prop} {PF : List UInt8 → Option Nat} (C0 : PFC lo T PF) {base B R : Nat} {s : ByteArray} {w : World} {k d : Nat} (hlo : lo ≤ base) (hd : d < 4) (hT : T w) (h : Ready base B R s w k) {j : Bool} {ts : List Tok} (ht : toksAt ((By s).drop k) j = some ts)
    (hz : ∀ t ∈ ts, t.1 = 49 → ∀ r, t.2 = 48 :: r → digN r = 0) (hg : ∀ t ∈ ts, Good t) : Calls Tryz.prog 46 #[.pointer (some ⟨B, 0, none⟩), .int .u8 (d : Nat)] w (PointPost T base B R s PF d ts w) := by
  have hi3 := fun wx => is3_any d hd wx
  have him := fun wx => ism_any d hd wx
  have hst := store_f
  obtain ⟨q3, hq3⟩ : ∃ q, d3 d = q := ⟨_, rfl⟩
  obtain ⟨qm, hqm⟩ : ∃ q, dm d = q := ⟨_, rfl⟩
  rw [hq3] at hi3
  rw [hqm] at him
  have HQ3 := Lib.hid hq3
  have HQM := Lib.hid hqm
  clear hq3 hqm
  obtain ⟨b1, b2, b3, b4, b5, b6⟩ := h.bnd
  obtain ⟨V, hV⟩ : ∃ V, w.heap.size = V := ⟨_, rfl⟩
  have hns : NS lo T base B R s ts w V (V + 1) #[.float .f64 0, .float .f64 0, .float .f64 0, .float .f64 0, .int .u8 0] #[.float .f64 0, .float .f64 0, .float .f64 0, .float .f64 0, .int .u8 (d : Int)]
      ((w.alloc (.cells #[.float .f64 0, .float .f64 0, .float .f64 0, .float .f64 0, .int .u8 0] 43)).alloc (.cells #[.float .f64 0, .float .f64 0, .float .f64 0, .float .f64 0, .int .u8 (d : Int)] 43)) ts := by
    refine ⟨((Fr.refl base B R w).alloc b3 _).alloc (by simp; omega) _, ?_, ?_, ?_, ⟨k, j, [], (h.alloc _).alloc _, ht, rfl⟩, hlo, ⟨by omega, by omega, by omega⟩, ⟨by omega, by omega, by omega, by omega, by omega, by omega⟩⟩
    · exact (hV ▸ Row.new w _ 43).alloc _
    · have := Row.new (w.alloc (.cells #[.float .f64 0, .float .f64 0, .float .f64 0, .float .f64 0, .int .u8 0] 43)) #[.float .f64 0, .float .f64 0, .float .f64 0, .float .f64 0, .int .u8 (d : Int)] 43
      rw [show (w.alloc (.cells #[.float .f64 0, .float .f64 0, .float .f64 0, .float .f64 0, .int .u8 0] 43)).heap.size = V + 1 from by simp [hV]] at this
      exact this
    · exact C0.mono hlo (((Below.refl base w).alloc b3 _).alloc (by simp; omega) _) hT
  have HZ := Lib.hid hz
  have HG := Lib.hid hg
  have HNS := Lib.hid hns
  clear hz hg hns h hT ht
  go_enter Tryz.func46, Tryz.ntmps46
  go_wp2_with fail
  generalize (w.alloc (.cells #[.float .f64 0, .float .f64 0, .float .f64 0, .float .f64 0, .int .u8 0] 43)).alloc (.cells #[.float .f64 0, .float .f64 0, .float .f64 0, .float .f64 0, .int .u8 (d : Int)] 43) = W at HNS ⊢
  cases q3 <;> cases qm
  · go_at_call 57
    refine (HNS.out.num C0 HZ.out HG.out).mono ?_
    rintro e u0 (⟨hn, hF, hr1, hr2, x, v, ⟨vt, vd, rfl⟩, rfl⟩ | ⟨x0, r0, hn0, rfl, hns0⟩)
    · have z0 : u0.cell? ⟨V, 0, none⟩ = some (.float .f64 0) := hr1.cell rfl
      have z1 : u0.cell? ⟨V, 1, none⟩ = some (.float .f64 0) := hr1.cell rfl
      have z2 : u0.cell? ⟨V, 2, none⟩ = some (.float .f64 0) := hr1.cell rfl
      have z3 : u0.cell? ⟨V, 3, none⟩ = some (.float .f64 0) := hr1.cell rfl
      have z4 : u0.cell? ⟨V, 4, none⟩ = some (.int .u8 0) := hr1.cell rfl
      have zf := hr1.frozen
      have c0 : u0.cell? ⟨V + 1, 0, none⟩ = some (.float .f64 0) := hr2.cell rfl
      have c1 : u0.cell? ⟨V + 1, 1, none⟩ = some (.float .f64 0) := hr2.cell rfl
      have c2 : u0.cell? ⟨V + 1, 2, none⟩ = some (.float .f64 0) := hr2.cell rfl
      have c3 : u0.cell? ⟨V + 1, 3, none⟩ = some (.float .f64 0) := hr2.cell rfl
      have c4 : u0.cell? ⟨V + 1, 4, none⟩ = some (.int .u8 (d : Int)) := hr2.cell rfl
      have cf := hr2.frozen
      have HNE := Lib.hid hn
      have HR1 := Lib.hid hr1
      have HFE := Lib.hid hF
      clear hn hF hr1 hr2
      go_wp2_with fail
      have hend := (((((HR1.out.far (p := ⟨V + 1, 0, none⟩) (show V ≠ V + 1 by omega) (.float .f64 x)).set 0 (.float .f64 0)).set 1 (.float .f64 0)).set 2 (.float .f64 0)).set 3 (.float .f64 0)).set 4 (.int .u8 0)
      refine bodyPost_ret (results_ct rfl _ _ V 43 _ (0, 0) rfl hend Tryz.underlying43 info43) rfl ?_
      refine ⟨((((((HFE.out.setNew (by omega) (by omega) _).setNew (by omega) (by omega) _).setNew (by omega) (by omega) _).setNew (by omega) (by omega) _).setNew (by omega) (by omega) _).setNew (by omega) (by omega) _), .inl ⟨?_, _, ⟨_, _, rfl⟩, rfl⟩⟩
      show numsP PF (wid d) ts = none
      rw [show wid d = 2 from by unfold wid; rw [HQ3.out, HQM.out]; rfl]
      rw [nums2 HNE.out]
    have HE0 := Lib.hid hn0
    have HM0 := Lib.hid hns0
    have hr2 := hns0.r2
    have c0 : u0.cell? ⟨V + 1, 0, none⟩ = some (.float .f64 0) := hr2.cell rfl
    have c1 : u0.cell? ⟨V + 1, 1, none⟩ = some (.float .f64 0) := hr2.cell rfl
    have c2 : u0.cell? ⟨V + 1, 2, none⟩ = some (.float .f64 0) := hr2.cell rfl
    have c3 : u0.cell? ⟨V + 1, 3, none⟩ = some (.float .f64 0) := hr2.cell rfl
    have c4 : u0.cell? ⟨V + 1, 4, none⟩ = some (.int .u8 (d : Int)) := hr2.cell rfl
    have cf := hr2.frozen
    have hns0b : NS lo T base B R s ts w V (V + 1) #[.float .f64 0, .float .f64 0, .float .f64 0, .float .f64 0, .int .u8 0] #[.float .f64 x0, .float .f64 0, .float .f64 0, .float .f64 0, .int .u8 (d : Int)] (u0.setCell ⟨V + 1, 0, none⟩ (.float .f64 x0)) r0 := hns0.set C0 0 _
    have HN0 := Lib.hid hns0b
    clear hn0 hns0 hns0b hr2
    go_wp2_with (first | (go_at_call 28; refine (hi3 _).mono ?_; rintro _ _ ⟨rfl, rfl⟩) | (go_at_call 29; refine (him _).mono ?_; rintro _ _ ⟨rfl, rfl⟩))
    clear c0 c1 c2 c3 c4 cf
    generalize u0.setCell ⟨V + 1, 0, none⟩ (.float .f64 x0) = W0 at HN0 ⊢
    go_at_call 57
    refine (HN0.out.num C0 HZ.out HG.out).mono ?_
    rintro e u1 (⟨hn, hF, hr1, hr2, x, v, ⟨vt, vd, rfl⟩, rfl⟩ | ⟨x1, r1, hn1, rfl, hns1⟩)
    · have z0 : u1.cell? ⟨V, 0, none⟩ = some (.float .f64 0) := hr1.cell rfl
      have z1 : u1.cell? ⟨V, 1, none⟩ = some (.float .f64 0) := hr1.cell rfl
      have z2 : u1.cell? ⟨V, 2, none⟩ = some (.float .f64 0) := hr1.cell rfl
      have z3 : u1.cell? ⟨V, 3, none⟩ = some (.float .f64 0) := hr1.cell rfl
      have z4 : u1.cell? ⟨V, 4, none⟩ = some (.int .u8 0) := hr1.cell rfl
      have zf := hr1.frozen
      have c0 : u1.cell? ⟨V + 1, 0, none⟩ = some (.float .f64 x0) := hr2.cell rfl
      have c1 : u1.cell? ⟨V + 1, 1, none⟩ = some (.float .f64 0) := hr2.cell rfl
      have c2 : u1.cell? ⟨V + 1, 2, none⟩ = some (.float .f64 0) := hr2.cell rfl
      have c3 : u1.cell? ⟨V + 1, 3, none⟩ = some (.float .f64 0) := hr2.cell rfl
      have c4 : u1.cell? ⟨V + 1, 4, none⟩ = some (.int .u8 (d : Int)) := hr2.cell rfl
      have cf := hr2.frozen
      have HNE := Lib.hid hn
      have HR1 := Lib.hid hr1
      have HFE := Lib.hid hF
      clear hn hF hr1 hr2
      go_wp2_with fail
      have hend := (((((HR1.out.far (p := ⟨V + 1, 1, none⟩) (show V ≠ V + 1 by omega) (.float .f64 x)).set 0 (.float .f64 0)).set 1 (.float .f64 0)).set 2 (.float .f64 0)).set 3 (.float .f64 0)).set 4 (.int .u8 0)
      refine bodyPost_ret (results_ct rfl _ _ V 43 _ (0, 0) rfl hend Tryz.underlying43 info43) rfl ?_
      refine ⟨((((((HFE.out.setNew (by omega) (by omega) _).setNew (by omega) (by omega) _).setNew (by omega) (by omega) _).setNew (by omega) (by omega) _).setNew (by omega) (by omega) _).setNew (by omega) (by omega) _), .inl ⟨?_, _, ⟨_, _, rfl⟩, rfl⟩⟩
      show numsP PF (wid d) ts = none
      rw [show wid d = 2 from by unfold wid; rw [HQ3.out, HQM.out]; rfl]
      rw [nums3 HE0.out]
      rw [nums2 HNE.out]
      rfl
    have HE1 := Lib.hid hn1
    have HM1 := Lib.hid hns1
    have hr2 := hns1.r2
    have c0 : u1.cell? ⟨V + 1, 0, none⟩ = some (.float .f64 x0) := hr2.cell rfl
    have c1 : u1.cell? ⟨V + 1, 1, none⟩ = some (.float .f64 0) := hr2.cell rfl
    have c2 : u1.cell? ⟨V + 1, 2, none⟩ = some (.float .f64 0) := hr2.cell rfl
    have c3 : u1.cell? ⟨V + 1, 3, none⟩ = some (.float .f64 0) := hr2.cell rfl
    have c4 : u1.cell? ⟨V + 1, 4, none⟩ = some (.int .u8 (d : Int)) := hr2.cell rfl
    have cf := hr2.frozen
    have hns1b : NS lo T base B R s ts w V (V + 1) #[.float .f64 0, .float .f64 0, .float .f64 0, .float .f64 0, .int .u8 0] #[.float .f64 x0, .float .f64 x1, .float .f64 0, .float .f64 0, .int .u8 (d : Int)] (u1.setCell ⟨V + 1, 1, none⟩ (.float .f64 x1)) r1 := hns1.set C0 1 _
    have HN1 := Lib.hid hns1b
    clear hn1 hns1 hns1b hr2
    have hr1 := HN1.out.r1
    have z0 : (u1.setCell ⟨V + 1, 1, none⟩ (.float .f64 x1)).cell? ⟨V, 0, none⟩ = some (.float .f64 0) := hr1.cell rfl
    have z1 : (u1.setCell ⟨V + 1, 1, none⟩ (.float .f64 x1)).cell? ⟨V, 1, none⟩ = some (.float .f64 0) := hr1.cell rfl
    have z2 : (u1.setCell ⟨V + 1, 1, none⟩ (.float .f64 x1)).cell? ⟨V, 2, none⟩ = some (.float .f64 0) := hr1.cell rfl
    have z3 : (u1.setCell ⟨V + 1, 1, none⟩ (.float .f64 x1)).cell? ⟨V, 3, none⟩ = some (.float .f64 0) := hr1.cell rfl
    have z4 : (u1.setCell ⟨V + 1, 1, none⟩ (.float .f64 x1)).cell? ⟨V, 4, none⟩ = some (.int .u8 0) := hr1.cell rfl
    have zf := hr1.frozen
    clear hr1
    have hr2 := HN1.out.r2
    have g0 : (u1.setCell ⟨V + 1, 1, none⟩ (.float .f64 x1)).cell? ⟨V + 1, 0, none⟩ = some (.float .f64 x0) := hr2.cell rfl
    have g1 : (u1.setCell ⟨V + 1, 1, none⟩ (.float .f64 x1)).cell? ⟨V + 1, 1, none⟩ = some (.float .f64 x1) := hr2.cell rfl
    have g2 : (u1.setCell ⟨V + 1, 1, none⟩ (.float .f64 x1)).cell? ⟨V + 1, 2, none⟩ = some (.float .f64 0) := hr2.cell rfl
    have g3 : (u1.setCell ⟨V + 1, 1, none⟩ (.float .f64 x1)).cell? ⟨V + 1, 3, none⟩ = some (.float .f64 0) := hr2.cell rfl
    have g4 : (u1.setCell ⟨V + 1, 1, none⟩ (.float .f64 x1)).cell? ⟨V + 1, 4, none⟩ = some (.int .u8 (d : Int)) := hr2.cell rfl
    have gf := hr2.frozen
    clear hr2
    go_wp2_with (first | (go_at_call 28; refine (hi3 _).mono ?_; rintro _ _ ⟨rfl, rfl⟩) | (go_at_call 29; refine (him _).mono ?_; rintro _ _ ⟨rfl, rfl⟩))
    clear c0 c1 c2 c3 c4 cf
    have hfin := (((((HN1.out.setOut C0 0 (.float .f64 x0)).setOut C0 1 (.float .f64 x1)).setOut C0 2 (.float .f64 0)).setOut C0 3 (.float .f64 0)).setOut C0 4 (.int .u8 (d : Int)))
    have hend := hfin.r1
    refine bodyPost_ret (results_ct rfl _ _ V 43 _ (0, 0) rfl hend Tryz.underlying43 info43) rfl ?_
    refine ⟨hfin.fr, .inr ⟨[x0, x1], r1, ?_, ?_, ?_, hfin.glob, hfin.rest⟩⟩
    · rw [show wid d = 2 from by unfold wid; rw [HQ3.out, HQM.out]; rfl]
      rw [nums3 HE0.out]
      rw [nums3 HE1.out]
      rfl
    · rw [show wid d = 2 from by unfold wid; rw [HQ3.out, HQM.out]; rfl]; rfl
    · unfold coords
      rw [HQ3.out, HQM.out]
      rfl
  · go_at_call 57
    refine (HNS.out.num C0 HZ.out HG.out).mono ?_
    rintro e u0 (⟨hn, hF, hr1, hr2, x, v, ⟨vt, vd, rfl⟩, rfl⟩ | ⟨x0, r0, hn0, rfl, hns0⟩)
    · have z0 : u0.cell? ⟨V, 0, none⟩ = some (.float .f64 0) := hr1.cell rfl
      have z1 : u0.cell? ⟨V, 1, none⟩ = some (.float .f64 0) := hr1.cell rfl
      have z2 : u0.cell? ⟨V, 2, none⟩ = some (.float .f64 0) := hr1.cell rfl
      have z3 : u0.cell? ⟨V, 3, none⟩ = some (.float .f64 0) := hr1.cell rfl
      have z4 : u0.cell? ⟨V, 4, none⟩ = some (.int .u8 0) := hr1.cell rfl
      have zf := hr1.frozen
      have c0 : u0.cell? ⟨V + 1, 0, none⟩ = some (.float .f64 0) := hr2.cell rfl
      have c1 : u0.cell? ⟨V + 1, 1, none⟩ = some (.float .f64 0) := hr2.cell rfl
      have c2 : u0.cell? ⟨V + 1, 2, none⟩ = some (.float .f64 0) := hr2.cell rfl
      have c3 : u0.cell? ⟨V + 1, 3, none⟩ = some (.float .f64 0) := hr2.cell rfl
      have c4 : u0.cell? ⟨V + 1, 4, none⟩ = some (.int .u8 (d : Int)) := hr2.cell rfl
      have cf := hr2.frozen
      have HNE := Lib.hid hn
      have HR1 := Lib.hid hr1
      have HFE := Lib.hid hF
      clear hn hF hr1 hr2
      go_wp2_with fail
      have hend := (((((HR1.out.far (p := ⟨V + 1, 0, none⟩) (show V ≠ V + 1 by omega) (.float .f64 x)).set 0 (.float .f64 0)).set 1 (.float .f64 0)).set 2 (.float .f64 0)).set 3 (.float .f64 0)).set 4 (.int .u8 0)
      refine bodyPost_ret (results_ct rfl _ _ V 43 _ (0, 0) rfl hend Tryz.underlying43 info43) rfl ?_
      refine ⟨((((((HFE.out.setNew (by omega) (by omega) _).setNew (by omega) (by omega) _).setNew (by omega) (by omega) _).setNew (by omega) (by omega) _).setNew (by omega) (by omega) _).setNew (by omega) (by omega) _), .inl ⟨?_, _, ⟨_, _, rfl⟩, rfl⟩⟩
      show numsP PF (wid d) ts = none
      rw [show wid d = 3 from by unfold wid; rw [HQ3.out, HQM.out]; rfl]
      rw [nums2 HNE.out]
    have HE0 := Lib.hid hn0
    have HM0 := Lib.hid hns0
    have hr2 := hns0.r2
    have c0 : u0.cell? ⟨V + 1, 0, none⟩ = some (.float .f64 0) := hr2.cell rfl
    have c1 : u0.cell? ⟨V + 1, 1, none⟩ = some (.float .f64 0) := hr2.cell rfl
    have c2 : u0.cell? ⟨V + 1, 2, none⟩ = some (.float .f64 0) := hr2.cell rfl
    have c3 : u0.cell? ⟨V + 1, 3, none⟩ = some (.float .f64 0) := hr2.cell rfl
    have c4 : u0.cell? ⟨V + 1, 4, none⟩ = some (.int .u8 (d : Int)) := hr2.cell rfl
    have cf := hr2.frozen
    have hns0b : NS lo T base B R s ts w V (V + 1) #[.float .f64 0, .float .f64 0, .float .f64 0, .float .f64 0, .int .u8 0] #[.float .f64 x0, .float .f64 0, .float .f64 0, .float .f64 0, .int .u8 (d : Int)] (u0.setCell ⟨V + 1, 0, none⟩ (.float .f64 x0)) r0 := hns0.set C0 0 _
    have HN0 := Lib.hid hns0b
    clear hn0 hns0 hns0b hr2
    go_wp2_with (first | (go_at_call 28; refine (hi3 _).mono ?_; rintro _ _ ⟨rfl, rfl⟩) | (go_at_call 29; refine (him _).mono ?_; rintro _ _ ⟨rfl, rfl⟩))
    clear c0 c1 c2 c3 c4 cf
    generalize u0.setCell ⟨V + 1, 0, none⟩ (.float .f64 x0) = W0 at HN0 ⊢
    go_at_call 57
    refine (HN0.out.num C0 HZ.out HG.out).mono ?_
    rintro e u1 (⟨hn, hF, hr1, hr2, x, v, ⟨vt, vd, rfl⟩, rfl⟩ | ⟨x1, r1, hn1, rfl, hns1⟩)
    · have z0 : u1.cell? ⟨V, 0, none⟩ = some (.float .f64 0) := hr1.cell rfl
      have z1 : u1.cell? ⟨V, 1, none⟩ = some (.float .f64 0) := hr1.cell rfl
      have z2 : u1.cell? ⟨V, 2, none⟩ = some (.float .f64 0) := hr1.cell rfl
      have z3 : u1.cell? ⟨V, 3, none⟩ = some (.float .f64 0) := hr1.cell rfl
      have z4 : u1.cell? ⟨V, 4, none⟩ = some (.int .u8 0) := hr1.cell rfl
      have zf := hr1.frozen
      have c0 : u1.cell? ⟨V + 1, 0, none⟩ = some (.float .f64 x0) := hr2.cell rfl
      have c1 : u1.cell? ⟨V + 1, 1, none⟩ = some (.float .f64 0) := hr2.cell rfl
      have c2 : u1.cell? ⟨V + 1, 2, none⟩ = some (.float .f64 0) := hr2.cell rfl
      have c3 : u1.cell? ⟨V + 1, 3, none⟩ = some (.float .f64 0) := hr2.cell rfl
      have c4 : u1.cell? ⟨V + 1, 4, none⟩ = some (.int .u8 (d : Int)) := hr2.cell rfl
      have cf := hr2.frozen
      have HNE := Lib.hid hn
      have HR1 := Lib.hid hr1
      have HFE := Lib.hid hF
      clear hn hF hr1 hr2
      go_wp2_with fail
      have hend := (((((HR1.out.far (p := ⟨V + 1, 1, none⟩) (show V ≠ V + 1 by omega) (.float .f64 x)).set 0 (.float .f64 0)).set 1 (.float .f64 0)).set 2 (.float .f64 0)).set 3 (.float .f64 0)).set 4 (.int .u8 0)
      refine bodyPost_ret (results_ct rfl _ _ V 43 _ (0, 0) rfl hend Tryz.underlying43 info43) rfl ?_
      refine ⟨((((((HFE.out.setNew (by omega) (by omega) _).setNew (by omega) (by omega) _).setNew (by omega) (by omega) _).setNew (by omega) (by omega) _).setNew (by omega) (by omega) _).setNew (by omega) (by omega) _), .inl ⟨?_, _, ⟨_, _, rfl⟩, rfl⟩⟩
      show numsP PF (wid d) ts = none
      rw [show wid d = 3 from by unfold wid; rw [HQ3.out, HQM.out]; rfl]
      rw [nums3 HE0.out]
      rw [nums2 HNE.out]
      rfl
    have HE1 := Lib.hid hn1
    have HM1 := Lib.hid hns1
    have hr2 := hns1.r2
    have c0 : u1.cell? ⟨V + 1, 0, none⟩ = some (.float .f64 x0) := hr2.cell rfl
    have c1 : u1.cell? ⟨V + 1, 1, none⟩ = some (.float .f64 0) := hr2.cell rfl
    have c2 : u1.cell? ⟨V + 1, 2, none⟩ = some (.float .f64 0) := hr2.cell rfl
    have c3 : u1.cell? ⟨V + 1, 3, none⟩ = some (.float .f64 0) := hr2.cell rfl
    have c4 : u1.cell? ⟨V + 1, 4, none⟩ = some (.int .u8 (d : Int)) := hr2.cell rfl
    have cf := hr2.frozen
    have hns1b : NS lo T base B R s ts w V (V + 1) #[.float .f64 0, .float .f64 0, .float .f64 0, .float .f64 0, .int .u8 0] #[.float .f64 x0, .float .f64 x1, .float .f64 0, .float .f64 0, .int .u8 (d : Int)] (u1.setCell ⟨V + 1, 1, none⟩ (.float .f64 x1)) r1 := hns1.set C0 1 _
    have HN1 := Lib.hid hns1b
    clear hn1 hns1 hns1b hr2
    go_wp2_with (first | (go_at_call 28; refine (hi3 _).mono ?_; rintro _ _ ⟨rfl, rfl⟩) | (go_at_call 29; refine (him _).mono ?_; rintro _ _ ⟨rfl, rfl⟩))
    clear c0 c1 c2 c3 c4 cf
    generalize u1.setCell ⟨V + 1, 1, none⟩ (.float .f64 x1) = W1 at HN1 ⊢
    go_at_call 57
    refine (HN1.out.num C0 HZ.out HG.out).mono ?_
    rintro e u2 (⟨hn, hF, hr1, hr2, x, v, ⟨vt, vd, rfl⟩, rfl⟩ | ⟨x2, r2, hn2, rfl, hns2⟩)
    · have z0 : u2.cell? ⟨V, 0, none⟩ = some (.float .f64 0) := hr1.cell rfl
      have z1 : u2.cell? ⟨V, 1, none⟩ = some (.float .f64 0) := hr1.cell rfl
      have z2 : u2.cell? ⟨V, 2, none⟩ = some (.float .f64 0) := hr1.cell rfl
      have z3 : u2.cell? ⟨V, 3, none⟩ = some (.float .f64 0) := hr1.cell rfl
      have z4 : u2.cell? ⟨V, 4, none⟩ = some (.int .u8 0) := hr1.cell rfl
      have zf := hr1.frozen
      have c0 : u2.cell? ⟨V + 1, 0, none⟩ = some (.float .f64 x0) := hr2.cell rfl
      have c1 : u2.cell? ⟨V + 1, 1, none⟩ = some (.float .f64 x1) := hr2.cell rfl
      have c2 : u2.cell? ⟨V + 1, 2, none⟩ = some (.float .f64 0) := hr2.cell rfl
      have c3 : u2.cell? ⟨V + 1, 3, none⟩ = some (.float .f64 0) := hr2.cell rfl
      have c4 : u2.cell? ⟨V + 1, 4, none⟩ = some (.int .u8 (d : Int)) := hr2.cell rfl
      have cf := hr2.frozen
      have HNE := Lib.hid hn
      have HR1 := Lib.hid hr1
      have HFE := Lib.hid hF
      clear hn hF hr1 hr2
      go_wp2_with fail
      have hend := (((((HR1.out.far (p := ⟨V + 1, 3, none⟩) (show V ≠ V + 1 by omega) (.float .f64 x)).set 0 (.float .f64 0)).set 1 (.float .f64 0)).set 2 (.float .f64 0)).set 3 (.float .f64 0)).set 4 (.int .u8 0)
      refine bodyPost_ret (results_ct rfl _ _ V 43 _ (0, 0) rfl hend Tryz.underlying43 info43) rfl ?_
      refine ⟨((((((HFE.out.setNew (by omega) (by omega) _).setNew (by omega) (by omega) _).setNew (by omega) (by omega) _).setNew (by omega) (by omega) _).setNew (by omega) (by omega) _).setNew (by omega) (by omega) _), .inl ⟨?_, _, ⟨_, _, rfl⟩, rfl⟩⟩
      show numsP PF (wid d) ts = none
      rw [show wid d = 3 from by unfold wid; rw [HQ3.out, HQM.out]; rfl]
      rw [nums3 HE0.out]
      rw [nums3 HE1.out]
      rw [nums2 HNE.out]
      rfl
    have HE2 := Lib.hid hn2
    have HM2 := Lib.hid hns2
    have hr2 := hns2.r2
    have c0 : u2.cell? ⟨V + 1, 0, none⟩ = some (.float .f64 x0) := hr2.cell rfl
    have c1 : u2.cell? ⟨V + 1, 1, none⟩ = some (.float .f64 x1) := hr2.cell rfl
    have c2 : u2.cell? ⟨V + 1, 2, none⟩ = some (.float .f64 0) := hr2.cell rfl
    have c3 : u2.cell? ⟨V + 1, 3, none⟩ = some (.float .f64 0) := hr2.cell rfl
    have c4 : u2.cell? ⟨V + 1, 4, none⟩ = some (.int .u8 (d : Int)) := hr2.cell rfl
    have cf := hr2.frozen
    have hns2b : NS lo T base B R s ts w V (V + 1) #[.float .f64 0, .float .f64 0, .float .f64 0, .float .f64 0, .int .u8 0] #[.float .f64 x0, .float .f64 x1, .float .f64 0, .float .f64 x2, .int .u8 (d : Int)] (u2.setCell ⟨V + 1, 3, none⟩ (.float .f64 x2)) r2 := hns2.set C0 3 _
    have HN2 := Lib.hid hns2b
    clear hn2 hns2 hns2b hr2
    have hr1 := HN2.out.r1
    have z0 : (u2.setCell ⟨V + 1, 3, none⟩ (.float .f64 x2)).cell? ⟨V, 0, none⟩ = some (.float .f64 0) := hr1.cell rfl
    have z1 : (u2.setCell ⟨V + 1, 3, none⟩ (.float .f64 x2)).cell? ⟨V, 1, none⟩ = some (.float .f64 0) := hr1.cell rfl
    have z2 : (u2.setCell ⟨V + 1, 3, none⟩ (.float .f64 x2)).cell? ⟨V, 2, none⟩ = some (.float .f64 0) := hr1.cell rfl
    have z3 : (u2.setCell ⟨V + 1, 3, none⟩ (.float .f64 x2)).cell? ⟨V, 3, none⟩ = some (.float .f64 0) := hr1.cell rfl
    have z4 : (u2.setCell ⟨V + 1, 3, none⟩ (.float .f64 x2)).cell? ⟨V, 4, none⟩ = some (.int .u8 0) := hr1.cell rfl
    have zf := hr1.frozen
    clear hr1
    have hr2 := HN2.out.r2
    have g0 : (u2.setCell ⟨V + 1, 3, none⟩ (.float .f64 x2)).cell? ⟨V + 1, 0, none⟩ = some (.float .f64 x0) := hr2.cell rfl
    have g1 : (u2.setCell ⟨V + 1, 3, none⟩ (.float .f64 x2)).cell? ⟨V + 1, 1, none⟩ = some (.float .f64 x1) := hr2.cell rfl
    have g2 : (u2.setCell ⟨V + 1, 3, none⟩ (.float .f64 x2)).cell? ⟨V + 1, 2, none⟩ = some (.float .f64 0) := hr2.cell rfl
    have g3 : (u2.setCell ⟨V + 1, 3, none⟩ (.float .f64 x2)).cell? ⟨V + 1, 3, none⟩ = some (.float .f64 x2) := hr2.cell rfl
    have g4 : (u2.setCell ⟨V + 1, 3, none⟩ (.float .f64 x2)).cell? ⟨V + 1, 4, none⟩ = some (.int .u8 (d : Int)) := hr2.cell rfl
    have gf := hr2.frozen
    clear hr2
    go_wp2_with (first | (go_at_call 28; refine (hi3 _).mono ?_; rintro _ _ ⟨rfl, rfl⟩) | (go_at_call 29; refine (him _).mono ?_; rintro _ _ ⟨rfl, rfl⟩))
    clear c0 c1 c2 c3 c4 cf
    have hfin := (((((HN2.out.setOut C0 0 (.float .f64 x0)).setOut C0 1 (.float .f64 x1)).setOut C0 2 (.float .f64 0)).setOut C0 3 (.float .f64 x2)).setOut C0 4 (.int .u8 (d : Int)))
    have hend := hfin.r1
    refine bodyPost_ret (results_ct rfl _ _ V 43 _ (0, 0) rfl hend Tryz.underlying43 info43) rfl ?_
    refine ⟨hfin.fr, .inr ⟨[x0, x1, x2], r2, ?_, ?_, ?_, hfin.glob, hfin.rest⟩⟩
    · rw [show wid d = 3 from by unfold wid; rw [HQ3.out, HQM.out]; rfl]
      rw [nums3 HE0.out]
      rw [nums3 HE1.out]
      rw [nums3 HE2.out]
      rfl
    · rw [show wid d = 3 from by unfold wid; rw [HQ3.out, HQM.out]; rfl]; rfl
    · unfold coords
      rw [HQ3.out, HQM.out]
      rfl
  · go_at_call 57
    refine (HNS.out.num C0 HZ.out HG.out).mono ?_
    rintro e u0 (⟨hn, hF, hr1, hr2, x, v, ⟨vt, vd, rfl⟩, rfl⟩ | ⟨x0, r0, hn0, rfl, hns0⟩)
    · have z0 : u0.cell? ⟨V, 0, none⟩ = some (.float .f64 0) := hr1.cell rfl
      have z1 : u0.cell? ⟨V, 1, none⟩ = some (.float .f64 0) := hr1.cell rfl
      have z2 : u0.cell? ⟨V, 2, none⟩ = some (.float .f64 0) := hr1.cell rfl
      have z3 : u0.cell? ⟨V, 3, none⟩ = some (.float .f64 0) := hr1.cell rfl
      have z4 : u0.cell? ⟨V, 4, none⟩ = some (.int .u8 0) := hr1.cell rfl
      have zf := hr1.frozen
      have c0 : u0.cell? ⟨V + 1, 0, none⟩ = some (.float .f64 0) := hr2.cell rfl
      have c1 : u0.cell? ⟨V + 1, 1, none⟩ = some (.float .f64 0) := hr2.cell rfl
      have c2 : u0.cell? ⟨V + 1, 2, none⟩ = some (.float .f64 0) := hr2.cell rfl
      have c3 : u0.cell? ⟨V + 1, 3, none⟩ = some (.float .f64 0) := hr2.cell rfl
      have c4 : u0.cell? ⟨V + 1, 4, none⟩ = some (.int .u8 (d : Int)) := hr2.cell rfl
      have cf := hr2.frozen
      have HNE := Lib.hid hn
      have HR1 := Lib.hid hr1
      have HFE := Lib.hid hF
      clear hn hF hr1 hr2
      go_wp2_with fail
      have hend := (((((HR1.out.far (p := ⟨V + 1, 0, none⟩) (show V ≠ V + 1 by omega) (.float .f64 x)).set 0 (.float .f64 0)).set 1 (.float .f64 0)).set 2 (.float .f64 0)).set 3 (.float .f64 0)).set 4 (.int .u8 0)
      refine bodyPost_ret (results_ct rfl _ _ V 43 _ (0, 0) rfl hend Tryz.underlying43 info43) rfl ?_
      refine ⟨((((((HFE.out.setNew (by omega) (by omega) _).setNew (by omega) (by omega) _).setNew (by omega) (by omega) _).setNew (by omega) (by omega) _).setNew (by omega) (by omega) _).setNew (by omega) (by omega) _), .inl ⟨?_, _, ⟨_, _, rfl⟩, rfl⟩⟩
      show numsP PF (wid d) ts = none
      rw [show wid d = 3 from by unfold wid; rw [HQ3.out, HQM.out]; rfl]
      rw [nums2 HNE.out]
    have HE0 := Lib.hid hn0
    have HM0 := Lib.hid hns0
    have hr2 := hns0.r2
    have c0 : u0.cell? ⟨V + 1, 0, none⟩ = some (.float .f64 0) := hr2.cell rfl
    have c1 : u0.cell? ⟨V + 1, 1, none⟩ = some (.float .f64 0) := hr2.cell rfl
    have c2 : u0.cell? ⟨V + 1, 2, none⟩ = some (.float .f64 0) := hr2.cell rfl
    have c3 : u0.cell? ⟨V + 1, 3, none⟩ = some (.float .f64 0) := hr2.cell rfl
    have c4 : u0.cell? ⟨V + 1, 4, none⟩ = some (.int .u8 (d : Int)) := hr2.cell rfl
    have cf := hr2.frozen
    have hns0b : NS lo T base B R s ts w V (V + 1) #[.float .f64 0, .float .f64 0, .float .f64 0, .float .f64 0, .int .u8 0] #[.float .f64 x0, .float .f64 0, .float .f64 0, .float .f64 0, .int .u8 (d : Int)] (u0.setCell ⟨V + 1, 0, none⟩ (.float .f64 x0)) r0 := hns0.set C0 0 _
    have HN0 := Lib.hid hns0b
    clear hn0 hns0 hns0b hr2
    go_wp2_with (first | (go_at_call 28; refine (hi3 _).mono ?_; rintro _ _ ⟨rfl, rfl⟩) | (go_at_call 29; refine (him _).mono ?_; rintro _ _ ⟨rfl, rfl⟩))
    clear c0 c1 c2 c3 c4 cf
    generalize u0.setCell ⟨V + 1, 0, none⟩ (.float .f64 x0) = W0 at HN0 ⊢
    go_at_call 57
    refine (HN0.out.num C0 HZ.out HG.out).mono ?_
    rintro e u1 (⟨hn, hF, hr1, hr2, x, v, ⟨vt, vd, rfl⟩, rfl⟩ | ⟨x1, r1, hn1, rfl, hns1⟩)
    · have z0 : u1.cell? ⟨V, 0, none⟩ = some (.float .f64 0) := hr1.cell rfl
      have z1 : u1.cell? ⟨V, 1, none⟩ = some (.float .f64 0) := hr1.cell rfl
      have z2 : u1.cell? ⟨V, 2, none⟩ = some (.float .f64 0) := hr1.cell rfl
      have z3 : u1.cell? ⟨V, 3, none⟩ = some (.float .f64 0) := hr1.cell rfl
      have z4 : u1.cell? ⟨V, 4, none⟩ = some (.int .u8 0) := hr1.cell rfl
      have zf := hr1.frozen
      have c0 : u1.cell? ⟨V + 1, 0, none⟩ = some (.float .f64 x0) := hr2.cell rfl
      have c1 : u1.cell? ⟨V + 1, 1, none⟩ = some (.float .f64 0) := hr2.cell rfl
      have c2 : u1.cell? ⟨V + 1, 2, none⟩ = some (.float .f64 0) := hr2.cell rfl
      have c3 : u1.cell? ⟨V + 1, 3, none⟩ = some (.float .f64 0) := hr2.cell rfl
      have c4 : u1.cell? ⟨V + 1, 4, none⟩ = some (.int .u8 (d : Int)) := hr2.cell rfl
      have cf := hr2.frozen
      have HNE := Lib.hid hn
      have HR1 := Lib.hid hr1
      have HFE := Lib.hid hF
      clear hn hF hr1 hr2
      go_wp2_with fail
      have hend := (((((HR1.out.far (p := ⟨V + 1, 1, none⟩) (show V ≠ V + 1 by omega) (.float .f64 x)).set 0 (.float .f64 0)).set 1 (.float .f64 0)).set 2 (.float .f64 0)).set 3 (.float .f64 0)).set 4 (.int .u8 0)
      refine bodyPost_ret (results_ct rfl _ _ V 43 _ (0, 0) rfl hend Tryz.underlying43 info43) rfl ?_
      refine ⟨((((((HFE.out.setNew (by omega) (by omega) _).setNew (by omega) (by omega) _).setNew (by omega) (by omega) _).setNew (by omega) (by omega) _).setNew (by omega) (by omega) _).setNew (by omega) (by omega) _), .inl ⟨?_, _, ⟨_, _, rfl⟩, rfl⟩⟩
      show numsP PF (wid d) ts = none
      rw [show wid d = 3 from by unfold wid; rw [HQ3.out, HQM.out]; rfl]
      rw [nums3 HE0.out]
      rw [nums2 HNE.out]
      rfl
    have HE1 := Lib.hid hn1
    have HM1 := Lib.hid hns1
    have hr2 := hns1.r2
    have c0 : u1.cell? ⟨V + 1, 0, none⟩ = some (.float .f64 x0) := hr2.cell rfl
    have c1 : u1.cell? ⟨V + 1, 1, none⟩ = some (.float .f64 0) := hr2.cell rfl
    have c2 : u1.cell? ⟨V + 1, 2, none⟩ = some (.float .f64 0) := hr2.cell rfl
    have c3 : u1.cell? ⟨V + 1, 3, none⟩ = some (.float .f64 0) := hr2.cell rfl
    have c4 : u1.cell? ⟨V + 1, 4, none⟩ = some (.int .u8 (d : Int)) := hr2.cell rfl
    have cf := hr2.frozen
    have hns1b : NS lo T base B R s ts w V (V + 1) #[.float .f64 0, .float .f64 0, .float .f64 0, .float .f64 0, .int .u8 0] #[.float .f64 x0, .float .f64 x1, .float .f64 0, .float .f64 0, .int .u8 (d : Int)] (u1.setCell ⟨V + 1, 1, none⟩ (.float .f64 x1)) r1 := hns1.set C0 1 _
    have HN1 := Lib.hid hns1b
    clear hn1 hns1 hns1b hr2
    go_wp2_with (first | (go_at_call 28; refine (hi3 _).mono ?_; rintro _ _ ⟨rfl, rfl⟩) | (go_at_call 29; refine (him _).mono ?_; rintro _ _ ⟨rfl, rfl⟩))
    clear c0 c1 c2 c3 c4 cf
    generalize u1.setCell ⟨V + 1, 1, none⟩ (.float .f64 x1) = W1 at HN1 ⊢
    go_at_call 57
    refine (HN1.out.num C0 HZ.out HG.out).mono ?_
    rintro e u2 (⟨hn, hF, hr1, hr2, x, v, ⟨vt, vd, rfl⟩, rfl⟩ | ⟨x2, r2, hn2, rfl, hns2⟩)
    · have z0 : u2.cell? ⟨V, 0, none⟩ = some (.float .f64 0) := hr1.cell rfl
      have z1 : u2.cell? ⟨V, 1, none⟩ = some (.float .f64 0) := hr1.cell rfl
      have z2 : u2.cell? ⟨V, 2, none⟩ = some (.float .f64 0) := hr1.cell rfl
      have z3 : u2.cell? ⟨V, 3, none⟩ = some (.float .f64 0) := hr1.cell rfl
      have z4 : u2.cell? ⟨V, 4, none⟩ = some (.int .u8 0) := hr1.cell rfl
      have zf := hr1.frozen
      have c0 : u2.cell? ⟨V + 1, 0, none⟩ = some (.float .f64 x0) := hr2.cell rfl
      have c1 : u2.cell? ⟨V + 1, 1, none⟩ = some (.float .f64 x1) := hr2.cell rfl
      have c2 : u2.cell? ⟨V + 1, 2, none⟩ = some (.float .f64 0) := hr2.cell rfl
      have c3 : u2.cell? ⟨V + 1, 3, none⟩ = some (.float .f64 0) := hr2.cell rfl
      have c4 : u2.cell? ⟨V + 1, 4, none⟩ = some (.int .u8 (d : Int)) := hr2.cell rfl
      have cf := hr2.frozen
      have HNE := Lib.hid hn
      have HR1 := Lib.hid hr1
      have HFE := Lib.hid hF
      clear hn hF hr1 hr2
      go_wp2_with fail
      have hend := (((((HR1.out.far (p := ⟨V + 1, 2, none⟩) (show V ≠ V + 1 by omega) (.float .f64 x)).set 0 (.float .f64 0)).set 1 (.float .f64 0)).set 2 (.float .f64 0)).set 3 (.float .f64 0)).set 4 (.int .u8 0)
      refine bodyPost_ret (results_ct rfl _ _ V 43 _ (0, 0) rfl hend Tryz.underlying43 info43) rfl ?_
      refine ⟨((((((HFE.out.setNew (by omega) (by omega) _).setNew (by omega) (by omega) _).setNew (by omega) (by omega) _).setNew (by omega) (by omega) _).setNew (by omega) (by omega) _).setNew (by omega) (by omega) _), .inl ⟨?_, _, ⟨_, _, rfl⟩, rfl⟩⟩
      show numsP PF (wid d) ts = none
      rw [show wid d = 3 from by unfold wid; rw [HQ3.out, HQM.out]; rfl]
      rw [nums3 HE0.out]
      rw [nums3 HE1.out]
      rw [nums2 HNE.out]
      rfl
    have HE2 := Lib.hid hn2
    have HM2 := Lib.hid hns2
    have hr2 := hns2.r2
    have c0 : u2.cell? ⟨V + 1, 0, none⟩ = some (.float .f64 x0) := hr2.cell rfl
    have c1 : u2.cell? ⟨V + 1, 1, none⟩ = some (.float .f64 x1) := hr2.cell rfl
    have c2 : u2.cell? ⟨V + 1, 2, none⟩ = some (.float .f64 0) := hr2.cell rfl
    have c3 : u2.cell? ⟨V + 1, 3, none⟩ = some (.float .f64 0) := hr2.cell rfl
    have c4 : u2.cell? ⟨V + 1, 4, none⟩ = some (.int .u8 (d : Int)) := hr2.cell rfl
    have cf := hr2.frozen
    have hns2b : NS lo T base B R s ts w V (V + 1) #[.float .f64 0, .float .f64 0, .float .f64 0, .float .f64 0, .int .u8 0] #[.float .f64 x0, .float .f64 x1, .float .f64 x2, .float .f64 0, .int .u8 (d : Int)] (u2.setCell ⟨V + 1, 2, none⟩ (.float .f64 x2)) r2 := hns2.set C0 2 _
    have HN2 := Lib.hid hns2b
    clear hn2 hns2 hns2b hr2
    have hr1 := HN2.out.r1
    have z0 : (u2.setCell ⟨V + 1, 2, none⟩ (.float .f64 x2)).cell? ⟨V, 0, none⟩ = some (.float .f64 0) := hr1.cell rfl
    have z1 : (u2.setCell ⟨V + 1, 2, none⟩ (.float .f64 x2)).cell? ⟨V, 1, none⟩ = some (.float .f64 0) := hr1.cell rfl
    have z2 : (u2.setCell ⟨V + 1, 2, none⟩ (.float .f64 x2)).cell? ⟨V, 2, none⟩ = some (.float .f64 0) := hr1.cell rfl
    have z3 : (u2.setCell ⟨V + 1, 2, none⟩ (.float .f64 x2)).cell? ⟨V, 3, none⟩ = some (.float .f64 0) := hr1.cell rfl
    have z4 : (u2.setCell ⟨V + 1, 2, none⟩ (.float .f64 x2)).cell? ⟨V, 4, none⟩ = some (.int .u8 0) := hr1.cell rfl
    have zf := hr1.frozen
    clear hr1
    have hr2 := HN2.out.r2
    have g0 : (u2.setCell ⟨V + 1, 2, none⟩ (.float .f64 x2)).cell? ⟨V + 1, 0, none⟩ = some (.float .f64 x0) := hr2.cell rfl
    have g1 : (u2.setCell ⟨V + 1, 2, none⟩ (.float .f64 x2)).cell? ⟨V + 1, 1, none⟩ = some (.float .f64 x1) := hr2.cell rfl
    have g2 : (u2.setCell ⟨V + 1, 2, none⟩ (.float .f64 x2)).cell? ⟨V + 1, 2, none⟩ = some (.float .f64 x2) := hr2.cell rfl
    have g3 : (u2.setCell ⟨V + 1, 2, none⟩ (.float .f64 x2)).cell? ⟨V + 1, 3, none⟩ = some (.float .f64 0) := hr2.cell rfl
    have g4 : (u2.setCell ⟨V + 1, 2, none⟩ (.float .f64 x2)).cell? ⟨V + 1, 4, none⟩ = some (.int .u8 (d : Int)) := hr2.cell rfl
    have gf := hr2.frozen
    clear hr2
    go_wp2_with (first | (go_at_call 28; refine (hi3 _).mono ?_; rintro _ _ ⟨rfl, rfl⟩) | (go_at_call 29; refine (him _).mono ?_; rintro _ _ ⟨rfl, rfl⟩))
    clear c0 c1 c2 c3 c4 cf
    have hfin := (((((HN2.out.setOut C0 0 (.float .f64 x0)).setOut C0 1 (.float .f64 x1)).setOut C0 2 (.float .f64 x2)).setOut C0 3 (.float .f64 0)).setOut C0 4 (.int .u8 (d : Int)))
    have hend := hfin.r1
    refine bodyPost_ret (results_ct rfl _ _ V 43 _ (0, 0) rfl hend Tryz.underlying43 info43) rfl ?_
    refine ⟨hfin.fr, .inr ⟨[x0, x1, x2], r2, ?_, ?_, ?_, hfin.glob, hfin.rest⟩⟩
    · rw [show wid d = 3 from by unfold wid; rw [HQ3.out, HQM.out]; rfl]
      rw [nums3 HE0.out]
      rw [nums3 HE1.out]
      rw [nums3 HE2.out]
      rfl
    · rw [show wid d = 3 from by unfold wid; rw [HQ3.out, HQM.out]; rfl]; rfl
    · unfold coords
      rw [HQ3.out, HQM.out]
      rfl
  · go_at_call 57
    refine (HNS.out.num C0 HZ.out HG.out).mono ?_
    rintro e u0 (⟨hn, hF, hr1, hr2, x, v, ⟨vt, vd, rfl⟩, rfl⟩ | ⟨x0, r0, hn0, rfl, hns0⟩)
    · have z0 : u0.cell? ⟨V, 0, none⟩ = some (.float .f64 0) := hr1.cell rfl
      have z1 : u0.cell? ⟨V, 1, none⟩ = some (.float .f64 0) := hr1.cell rfl
      have z2 : u0.cell? ⟨V, 2, none⟩ = some (.float .f64 0) := hr1.cell rfl
      have z3 : u0.cell? ⟨V, 3, none⟩ = some (.float .f64 0) := hr1.cell rfl
      have z4 : u0.cell? ⟨V, 4, none⟩ = some (.int .u8 0) := hr1.cell rfl
      have zf := hr1.frozen
      have c0 : u0.cell? ⟨V + 1, 0, none⟩ = some (.float .f64 0) := hr2.cell rfl
      have c1 : u0.cell? ⟨V + 1, 1, none⟩ = some (.float .f64 0) := hr2.cell rfl
      have c2 : u0.cell? ⟨V + 1, 2, none⟩ = some (.float .f64 0) := hr2.cell rfl
      have c3 : u0.cell? ⟨V + 1, 3, none⟩ = some (.float .f64 0) := hr2.cell rfl
      have c4 : u0.cell? ⟨V + 1, 4, none⟩ = some (.int .u8 (d : Int)) := hr2.cell rfl
      have cf := hr2.frozen
      have HNE := Lib.hid hn
      have HR1 := Lib.hid hr1
      have HFE := Lib.hid hF
      clear hn hF hr1 hr2
      go_wp2_with fail
      have hend := (((((HR1.out.far (p := ⟨V + 1, 0, none⟩) (show V ≠ V + 1 by omega) (.float .f64 x)).set 0 (.float .f64 0)).set 1 (.float .f64 0)).set 2 (.float .f64 0)).set 3 (.float .f64 0)).set 4 (.int .u8 0)
      refine bodyPost_ret (results_ct rfl _ _ V 43 _ (0, 0) rfl hend Tryz.underlying43 info43) rfl ?_
      refine ⟨((((((HFE.out.setNew (by omega) (by omega) _).setNew (by omega) (by omega) _).setNew (by omega) (by omega) _).setNew (by omega) (by omega) _).setNew (by omega) (by omega) _).setNew (by omega) (by omega) _), .inl ⟨?_, _, ⟨_, _, rfl⟩, rfl⟩⟩
      show numsP PF (wid d) ts = none
      rw [show wid d = 4 from by unfold wid; rw [HQ3.out, HQM.out]; rfl]
      rw [nums2 HNE.out]
    have HE0 := Lib.hid hn0
    have HM0 := Lib.hid hns0
    have hr2 := hns0.r2
    have c0 : u0.cell? ⟨V + 1, 0, none⟩ = some (.float .f64 0) := hr2.cell rfl
    have c1 : u0.cell? ⟨V + 1, 1, none⟩ = some (.float .f64 0) := hr2.cell rfl
    have c2 : u0.cell? ⟨V + 1, 2, none⟩ = some (.float .f64 0) := hr2.cell rfl
    have c3 : u0.cell? ⟨V + 1, 3, none⟩ = some (.float .f64 0) := hr2.cell rfl
    have c4 : u0.cell? ⟨V + 1, 4, none⟩ = some (.int .u8 (d : Int)) := hr2.cell rfl
    have cf := hr2.frozen
    have hns0b : NS lo T base B R s ts w V (V + 1) #[.float .f64 0, .float .f64 0, .float .f64 0, .float .f64 0, .int .u8 0] #[.float .f64 x0, .float .f64 0, .float .f64 0, .float .f64 0, .int .u8 (d : Int)] (u0.setCell ⟨V + 1, 0, none⟩ (.float .f64 x0)) r0 := hns0.set C0 0 _
    have HN0 := Lib.hid hns0b
    clear hn0 hns0 hns0b hr2
    go_wp2_with (first | (go_at_call 28; refine (hi3 _).mono ?_; rintro _ _ ⟨rfl, rfl⟩) | (go_at_call 29; refine (him _).mono ?_; rintro _ _ ⟨rfl, rfl⟩))
    clear c0 c1 c2 c3 c4 cf
    generalize u0.setCell ⟨V + 1, 0, none⟩ (.float .f64 x0) = W0 at HN0 ⊢
    go_at_call 57
    refine (HN0.out.num C0 HZ.out HG.out).mono ?_
    rintro e u1 (⟨hn, hF, hr1, hr2, x, v, ⟨vt, vd, rfl⟩, rfl⟩ | ⟨x1, r1, hn1, rfl, hns1⟩)
    · have z0 : u1.cell? ⟨V, 0, none⟩ = some (.float .f64 0) := hr1.cell rfl
      have z1 : u1.cell? ⟨V, 1, none⟩ = some (.float .f64 0) := hr1.cell rfl
      have z2 : u1.cell? ⟨V, 2, none⟩ = some (.float .f64 0) := hr1.cell rfl
      have z3 : u1.cell? ⟨V, 3, none⟩ = some (.float .f64 0) := hr1.cell rfl
      have z4 : u1.cell? ⟨V, 4, none⟩ = some (.int .u8 0) := hr1.cell rfl
      have zf := hr1.frozen
      have c0 : u1.cell? ⟨V + 1, 0, none⟩ = some (.float .f64 x0) := hr2.cell rfl
      have c1 : u1.cell? ⟨V + 1, 1, none⟩ = some (.float .f64 0) := hr2.cell rfl
      have c2 : u1.cell? ⟨V + 1, 2, none⟩ = some (.float .f64 0) := hr2.cell rfl
      have c3 : u1.cell? ⟨V + 1, 3, none⟩ = some (.float .f64 0) := hr2.cell rfl
      have c4 : u1.cell? ⟨V + 1, 4, none⟩ = some (.int .u8 (d : Int)) := hr2.cell rfl
      have cf := hr2.frozen
      have HNE := Lib.hid hn
      have HR1 := Lib.hid hr1
      have HFE := Lib.hid hF
      clear hn hF hr1 hr2
      go_wp2_with fail
      have hend := (((((HR1.out.far (p := ⟨V + 1, 1, none⟩) (show V ≠ V + 1 by omega) (.float .f64 x)).set 0 (.float .f64 0)).set 1 (.float .f64 0)).set 2 (.float .f64 0)).set 3 (.float .f64 0)).set 4 (.int .u8 0)
      refine bodyPost_ret (results_ct rfl _ _ V 43 _ (0, 0) rfl hend Tryz.underlying43 info43) rfl ?_
      refine ⟨((((((HFE.out.setNew (by omega) (by omega) _).setNew (by omega) (by omega) _).setNew (by omega) (by omega) _).setNew (by omega) (by omega) _).setNew (by omega) (by omega) _).setNew (by omega) (by omega) _), .inl ⟨?_, _, ⟨_, _, rfl⟩, rfl⟩⟩
      show numsP PF (wid d) ts = none
      rw [show wid d = 4 from by unfold wid; rw [HQ3.out, HQM.out]; rfl]
      rw [nums3 HE0.out]
      rw [nums2 HNE.out]
      rfl
    have HE1 := Lib.hid hn1
    have HM1 := Lib.hid hns1
    have hr2 := hns1.r2
    have c0 : u1.cell? ⟨V + 1, 0, none⟩ = some (.float .f64 x0) := hr2.cell rfl
    have c1 : u1.cell? ⟨V + 1, 1, none⟩ = some (.float .f64 0) := hr2.cell rfl
    have c2 : u1.cell? ⟨V + 1, 2, none⟩ = some (.float .f64 0) := hr2.cell rfl
    have c3 : u1.cell? ⟨V + 1, 3, none⟩ = some (.float .f64 0) := hr2.cell rfl
    have c4 : u1.cell? ⟨V + 1, 4, none⟩ = some (.int .u8 (d : Int)) := hr2.cell rfl
    have cf := hr2.frozen
    have hns1b : NS lo T base B R s ts w V (V + 1) #[.float .f64 0, .float .f64 0, .float .f64 0, .float .f64 0, .int .u8 0] #[.float .f64 x0, .float .f64 x1, .float .f64 0, .float .f64 0, .int .u8 (d : Int)] (u1.setCell ⟨V + 1, 1, none⟩ (.float .f64 x1)) r1 := hns1.set C0 1 _
    have HN1 := Lib.hid hns1b
    clear hn1 hns1 hns1b hr2
    go_wp2_with (first | (go_at_call 28; refine (hi3 _).mono ?_; rintro _ _ ⟨rfl, rfl⟩) | (go_at_call 29; refine (him _).mono ?_; rintro _ _ ⟨rfl, rfl⟩))
    clear c0 c1 c2 c3 c4 cf
    generalize u1.setCell ⟨V + 1, 1, none⟩ (.float .f64 x1) = W1 at HN1 ⊢
    go_at_call 57
    refine (HN1.out.num C0 HZ.out HG.out).mono ?_
    rintro e u2 (⟨hn, hF, hr1, hr2, x, v, ⟨vt, vd, rfl⟩, rfl⟩ | ⟨x2, r2, hn2, rfl, hns2⟩)
    · have z0 : u2.cell? ⟨V, 0, none⟩ = some (.float .f64 0) := hr1.cell rfl
      have z1 : u2.cell? ⟨V, 1, none⟩ = some (.float .f64 0) := hr1.cell rfl
      have z2 : u2.cell? ⟨V, 2, none⟩ = some (.float .f64 0) := hr1.cell rfl
      have z3 : u2.cell? ⟨V, 3, none⟩ = some (.float .f64 0) := hr1.cell rfl
      have z4 : u2.cell? ⟨V, 4, none⟩ = some (.int .u8 0) := hr1.cell rfl
      have zf := hr1.frozen
      have c0 : u2.cell? ⟨V + 1, 0, none⟩ = some (.float .f64 x0) := hr2.cell rfl
      have c1 : u2.cell? ⟨V + 1, 1, none⟩ = some (.float .f64 x1) := hr2.cell rfl
      have c2 : u2.cell? ⟨V + 1, 2, none⟩ = some (.float .f64 0) := hr2.cell rfl
      have c3 : u2.cell? ⟨V + 1, 3, none⟩ = some (.float .f64 0) := hr2.cell rfl
      have c4 : u2.cell? ⟨V + 1, 4, none⟩ = some (.int .u8 (d : Int)) := hr2.cell rfl
      have cf := hr2.frozen
      have HNE := Lib.hid hn
      have HR1 := Lib.hid hr1
      have HFE := Lib.hid hF
      clear hn hF hr1 hr2
      go_wp2_with fail
      have hend := (((((HR1.out.far (p := ⟨V + 1, 2, none⟩) (show V ≠ V + 1 by omega) (.float .f64 x)).set 0 (.float .f64 0)).set 1 (.float .f64 0)).set 2 (.float .f64 0)).set 3 (.float .f64 0)).set 4 (.int .u8 0)
      refine bodyPost_ret (results_ct rfl _ _ V 43 _ (0, 0) rfl hend Tryz.underlying43 info43) rfl ?_
      refine ⟨((((((HFE.out.setNew (by omega) (by omega) _).setNew (by omega) (by omega) _).setNew (by omega) (by omega) _).setNew (by omega) (by omega) _).setNew (by omega) (by omega) _).setNew (by omega) (by omega) _), .inl ⟨?_, _, ⟨_, _, rfl⟩, rfl⟩⟩
      show numsP PF (wid d) ts = none
      rw [show wid d = 4 from by unfold wid; rw [HQ3.out, HQM.out]; rfl]
      rw [nums3 HE0.out]
      rw [nums3 HE1.out]
      rw [nums2 HNE.out]
      rfl
    have HE2 := Lib.hid hn2
    have HM2 := Lib.hid hns2
    have hr2 := hns2.r2
    have c0 : u2.cell? ⟨V + 1, 0, none⟩ = some (.float .f64 x0) := hr2.cell rfl
    have c1 : u2.cell? ⟨V + 1, 1, none⟩ = some (.float .f64 x1) := hr2.cell rfl
    have c2 : u2.cell? ⟨V + 1, 2, none⟩ = some (.float .f64 0) := hr2.cell rfl
    have c3 : u2.cell? ⟨V + 1, 3, none⟩ = some (.float .f64 0) := hr2.cell rfl
    have c4 : u2.cell? ⟨V + 1, 4, none⟩ = some (.int .u8 (d : Int)) := hr2.cell rfl
    have cf := hr2.frozen
    have hns2b : NS lo T base B R s ts w V (V + 1) #[.float .f64 0, .float .f64 0, .float .f64 0, .float .f64 0, .int .u8 0] #[.float .f64 x0, .float .f64 x1, .float .f64 x2, .float .f64 0, .int .u8 (d : Int)] (u2.setCell ⟨V + 1, 2, none⟩ (.float .f64 x2)) r2 := hns2.set C0 2 _
    have HN2 := Lib.hid hns2b
    clear hn2 hns2 hns2b hr2
    go_wp2_with (first | (go_at_call 28; refine (hi3 _).mono ?_; rintro _ _ ⟨rfl, rfl⟩) | (go_at_call 29; refine (him _).mono ?_; rintro _ _ ⟨rfl, rfl⟩))
    clear c0 c1 c2 c3 c4 cf
    generalize u2.setCell ⟨V + 1, 2, none⟩ (.float .f64 x2) = W2 at HN2 ⊢
    go_at_call 57
    refine (HN2.out.num C0 HZ.out HG.out).mono ?_
    rintro e u3 (⟨hn, hF, hr1, hr2, x, v, ⟨vt, vd, rfl⟩, rfl⟩ | ⟨x3, r3, hn3, rfl, hns3⟩)
    · have z0 : u3.cell? ⟨V, 0, none⟩ = some (.float .f64 0) := hr1.cell rfl
      have z1 : u3.cell? ⟨V, 1, none⟩ = some (.float .f64 0) := hr1.cell rfl
      have z2 : u3.cell? ⟨V, 2, none⟩ = some (.float .f64 0) := hr1.cell rfl
      have z3 : u3.cell? ⟨V, 3, none⟩ = some (.float .f64 0) := hr1.cell rfl
      have z4 : u3.cell? ⟨V, 4, none⟩ = some (.int .u8 0) := hr1.cell rfl
      have zf := hr1.frozen
      have c0 : u3.cell? ⟨V + 1, 0, none⟩ = some (.float .f64 x0) := hr2.cell rfl
      have c1 : u3.cell? ⟨V + 1, 1, none⟩ = some (.float .f64 x1) := hr2.cell rfl
      have c2 : u3.cell? ⟨V + 1, 2, none⟩ = some (.float .f64 x2) := hr2.cell rfl
      have c3 : u3.cell? ⟨V + 1, 3, none⟩ = some (.float .f64 0) := hr2.cell rfl
      have c4 : u3.cell? ⟨V + 1, 4, none⟩ = some (.int .u8 (d : Int)) := hr2.cell rfl
      have cf := hr2.frozen
      have HNE := Lib.hid hn
      have HR1 := Lib.hid hr1
      have HFE := Lib.hid hF
      clear hn hF hr1 hr2
      go_wp2_with fail
      have hend := (((((HR1.out.far (p := ⟨V + 1, 3, none⟩) (show V ≠ V + 1 by omega) (.float .f64 x)).set 0 (.float .f64 0)).set 1 (.float .f64 0)).set 2 (.float .f64 0)).set 3 (.float .f64 0)).set 4 (.int .u8 0)
      refine bodyPost_ret (results_ct rfl _ _ V 43 _ (0, 0) rfl hend Tryz.underlying43 info43) rfl ?_
      refine ⟨((((((HFE.out.setNew (by omega) (by omega) _).setNew (by omega) (by omega) _).setNew (by omega) (by omega) _).setNew (by omega) (by omega) _).setNew (by omega) (by omega) _).setNew (by omega) (by omega) _), .inl ⟨?_, _, ⟨_, _, rfl⟩, rfl⟩⟩
      show numsP PF (wid d) ts = none
      rw [show wid d = 4 from by unfold wid; rw [HQ3.out, HQM.out]; rfl]
      rw [nums3 HE0.out]
      rw [nums3 HE1.out]
      rw [nums3 HE2.out]
      rw [nums2 HNE.out]
      rfl
    have HE3 := Lib.hid hn3
    have HM3 := Lib.hid hns3
    have hr2 := hns3.r2
    have c0 : u3.cell? ⟨V + 1, 0, none⟩ = some (.float .f64 x0) := hr2.cell rfl
    have c1 : u3.cell? ⟨V + 1, 1, none⟩ = some (.float .f64 x1) := hr2.cell rfl
    have c2 : u3.cell? ⟨V + 1, 2, none⟩ = some (.float .f64 x2) := hr2.cell rfl
    have c3 : u3.cell? ⟨V + 1, 3, none⟩ = some (.float .f64 0) := hr2.cell rfl
    have c4 : u3.cell? ⟨V + 1, 4, none⟩ = some (.int .u8 (d : Int)) := hr2.cell rfl
    have cf := hr2.frozen
    have hns3b : NS lo T base B R s ts w V (V + 1) #[.float .f64 0, .float .f64 0, .float .f64 0, .float .f64 0, .int .u8 0] #[.float .f64 x0, .float .f64 x1, .float .f64 x2, .float .f64 x3, .int .u8 (d : Int)] (u3.setCell ⟨V + 1, 3, none⟩ (.float .f64 x3)) r3 := hns3.set C0 3 _
    have HN3 := Lib.hid hns3b
    clear hn3 hns3 hns3b hr2
    have hr1 := HN3.out.r1
    have z0 : (u3.setCell ⟨V + 1, 3, none⟩ (.float .f64 x3)).cell? ⟨V, 0, none⟩ = some (.float .f64 0) := hr1.cell rfl
    have z1 : (u3.setCell ⟨V + 1, 3, none⟩ (.float .f64 x3)).cell? ⟨V, 1, none⟩ = some (.float .f64 0) := hr1.cell rfl
    have z2 : (u3.setCell ⟨V + 1, 3, none⟩ (.float .f64 x3)).cell? ⟨V, 2, none⟩ = some (.float .f64 0) := hr1.cell rfl
    have z3 : (u3.setCell ⟨V + 1, 3, none⟩ (.float .f64 x3)).cell? ⟨V, 3, none⟩ = some (.float .f64 0) := hr1.cell rfl
    have z4 : (u3.setCell ⟨V + 1, 3, none⟩ (.float .f64 x3)).cell? ⟨V, 4, none⟩ = some (.int .u8 0) := hr1.cell rfl
    have zf := hr1.frozen
    clear hr1
    have hr2 := HN3.out.r2
    have g0 : (u3.setCell ⟨V + 1, 3, none⟩ (.float .f64 x3)).cell? ⟨V + 1, 0, none⟩ = some (.float .f64 x0) := hr2.cell rfl
    have g1 : (u3.setCell ⟨V + 1, 3, none⟩ (.float .f64 x3)).cell? ⟨V + 1, 1, none⟩ = some (.float .f64 x1) := hr2.cell rfl
    have g2 : (u3.setCell ⟨V + 1, 3, none⟩ (.float .f64 x3)).cell? ⟨V + 1, 2, none⟩ = some (.float .f64 x2) := hr2.cell rfl
    have g3 : (u3.setCell ⟨V + 1, 3, none⟩ (.float .f64 x3)).cell? ⟨V + 1, 3, none⟩ = some (.float .f64 x3) := hr2.cell rfl
    have g4 : (u3.setCell ⟨V + 1, 3, none⟩ (.float .f64 x3)).cell? ⟨V + 1, 4, none⟩ = some (.int .u8 (d : Int)) := hr2.cell rfl
    have gf := hr2.frozen
    clear hr2
    go_wp2_with (first | (go_at_call 28; refine (hi3 _).mono ?_; rintro _ _ ⟨rfl, rfl⟩) | (go_at_call 29; refine (him _).mono ?_; rintro _ _ ⟨rfl, rfl⟩))
    clear c0 c1 c2 c3 c4 cf
    have hfin := (((((HN3.out.setOut C0 0 (.float .f64 x0)).setOut C0 1 (.float .f64 x1)).setOut C0 2 (.float .f64 x2)).setOut C0 3 (.float .f64 x3)).setOut C0 4 (.int .u8 (d : Int)))
    have hend := hfin.r1
    refine bodyPost_ret (results_ct rfl _ _ V 43 _ (0, 0) rfl hend Tryz.underlying43 info43) rfl ?_
    refine ⟨hfin.fr, .inr ⟨[x0, x1, x2, x3], r3, ?_, ?_, ?_, hfin.glob, hfin.rest⟩⟩
    · rw [show wid d = 4 from by unfold wid; rw [HQ3.out, HQM.out]; rfl]
      rw [nums3 HE0.out]
      rw [nums3 HE1.out]
      rw [nums3 HE2.out]
      rw [nums3 HE3.out]
      rfl
    · rw [show wid d = 4 from by unfold wid; rw [HQ3.out, HQM.out]; rfl]; rfl
    · unfold coords
      rw [HQ3.out, HQM.out]
      rfl
end Go.Proofs.YtadpeebcombjnaaGreatDoor
namespace Go.Proofs.YtadpeebcombjnaaGreatDoor
open Go Go.Proofs Go.RowKit Go.Lib
set_option maxRecDepth 100000
abbrev Z5 : Array Value := #[.float .f64 0, .float .f64 0, .float .f64 0, .float .f64 0, .int .u8 0]
theorem results_ctt {fn : Func} {p u v : Tmp} {ty : TypeId} (h : fn.results = #[.cell p ty, .tmp u, .tmp v]) (tmps : Array Value) (w : World) (g : Nat) (t : TypeId) (cs : Array Value) (fr : Nat × Nat) {fs : _}
    (hp : tmps.getD p undef = .pointer (some ⟨g, 0, none⟩)) (hg : w.heap[g]? = some (.cells cs t fr))
    (hu : Tryz.prog.underlying ty = some (.struct fs)) (hi : (Tryz.prog.info? ty).map (·.size) = some cs.size) :
    (results fn tmps).run Tryz.prog w = .ok (.tuple #[.agg cs, tmps.getD u undef, tmps.getD v undef]) w := by
  have hp' : tmps[p]?.getD undef = .pointer (some ⟨g, 0, none⟩) := by simpa using hp
  simp [results, h, hp', asAddr, run_loadVar_row w g t ty cs fr (.struct fs) hg hu rfl hi]
def TextPost (base B R : Nat) (PF : List UInt8 → Option Nat) (d : Nat) (ts : List Tok) (w : World) (e : Ending) (w' : World) : Prop :=
  Fr base B R w w' ∧ ((progRead PF (wid d) ts = none ∧ ∃ v, IsErr v ∧ e = .returned (.tuple #[.agg #[.float .f64 0, .float .f64 0, .float .f64 0, .float .f64 0, .int .u8 0], .bool false, v])) ∨
    (progRead PF (wid d) ts = some none ∧ e = .returned (.tuple #[.agg #[.float .f64 0, .float .f64 0, .float .f64 0, .float .f64 0, .int .u8 0], .bool false, .nilIface])) ∨
    ∃ xs, progRead PF (wid d) ts = some (some xs) ∧ xs.length = wid d ∧ e = .returned (.tuple #[.agg (coords d xs), .bool true, .nilIface]))
set_option maxHeartbeats 4000000 in
theorem pointText_any {lo : Nat} {T : World → Prop} {PF : List UInt8 → Option Nat} (C0 : PFC lo T PF) {base B R : Nat} {s : ByteArray} {w : World} {k d : Nat} (hlo : lo ≤ base) (hd : d < 4) (hT : T w) (h : Ready base B R s w k) {j : Bool} {ts : List Tok} (ht : toksAt ((By s).drop k) j = some ts)
    (hz : ∀ t ∈ ts, t.1 = 49 → ∀ r, t.2 = 48 :: r → digN r = 0) (hg : ∀ t ∈ ts, Good t) : Calls Tryz.prog 25 #[.pointer (some ⟨B, 0, none⟩), .int .u8 (d : Nat)] w (TextPost base B R PF d ts w) := by
  obtain ⟨b1, b2, b3, b4, b5, b6⟩ := h.bnd
  obtain ⟨V, hV⟩ : ∃ V, w.heap.size = V := ⟨_, rfl⟩
  have hst := store_f
  have hrow0 : Row (w.alloc (.cells Z5 43)) V Z5 43 := hV ▸ Row.new w Z5 43
  have hfr0 : Fr base B R w (w.alloc (.cells Z5 43)) := (Fr.refl base B R w).alloc b3 _
  have hempty := emptyOrParen_any (h.alloc (.cells Z5 43)) ht hz
  have HT0 := Lib.hid (C0.mono hlo ((Below.refl base w).alloc b3 (.cells Z5 43)) hT)
  have HZ := Lib.hid hz
  have HG := Lib.hid hg
  have HF0 := Lib.hid hfr0
  have HROW := Lib.hid hrow0
  have HSZ : Hid ((w.alloc (.cells Z5 43)).heap.size = V + 1) := Lib.hid (by simp [hV])
  clear hz hg h hT ht hrow0 hfr0
  go_enter Tryz.func25, Tryz.ntmps25
  go_wp2_with fail
  change Hid (Fr base B R w (w.alloc (.cells #[.float .f64 0, .float .f64 0, .float .f64 0, .float .f64 0, .int .u8 0] 43))) at HF0
  generalize w.alloc (.cells #[.float .f64 0, .float .f64 0, .float .f64 0, .float .f64 0, .int .u8 0] 43) = W at *
  go_at_call 45
  refine hempty.mono ?_
  rintro e w1 ⟨hF, ⟨hts, v, ⟨vt, vd, rfl⟩, rfl⟩ | ⟨t, ts', hts, htt, rfl, n, j', hR, htk⟩⟩
  · have hr := row43 hF HROW.out (by omega) (by omega)
    have z0 : w1.cell? ⟨V, 0, none⟩ = some (.float .f64 0) := hr.cell rfl
    have z1 : w1.cell? ⟨V, 1, none⟩ = some (.float .f64 0) := hr.cell rfl
    have z2 : w1.cell? ⟨V, 2, none⟩ = some (.float .f64 0) := hr.cell rfl
    have z3 : w1.cell? ⟨V, 3, none⟩ = some (.float .f64 0) := hr.cell rfl
    have z4 : w1.cell? ⟨V, 4, none⟩ = some (.int .u8 0) := hr.cell rfl
    have zf := hr.frozen
    have HR1 := Lib.hid hr
    have HF1 := Lib.hid (HF0.out.trans hF)
    have HTS := Lib.hid hts
    clear hr hF hts hempty
    go_wp2_with fail
    have hend := (((((HR1.out.set 0 (.float .f64 0)).set 1 (.float .f64 0)).set 2 (.float .f64 0)).set 3 (.float .f64 0)).set 4 (.int .u8 0))
    refine bodyPost_ret (results_ctt rfl _ _ V 43 _ (0, 0) rfl hend Tryz.underlying43 info43) rfl ?_
    refine ⟨(((((HF1.out.setNew (by omega) (by omega) _).setNew (by omega) (by omega) _).setNew (by omega) (by omega) _).setNew (by omega) (by omega) _).setNew (by omega) (by omega) _), .inl ⟨?_, _, ⟨_, _, rfl⟩, rfl⟩⟩
    rcases HTS.out with rfl | ⟨t, ts', rfl, n1, n2⟩
    · rfl
    · rw [progRead, if_neg n1, if_neg n2]
  · have hr := row43 hF HROW.out (by omega) (by omega)
    have z0 : w1.cell? ⟨V, 0, none⟩ = some (.float .f64 0) := hr.cell rfl
    have z1 : w1.cell? ⟨V, 1, none⟩ = some (.float .f64 0) := hr.cell rfl
    have z2 : w1.cell? ⟨V, 2, none⟩ = some (.float .f64 0) := hr.cell rfl
    have z3 : w1.cell? ⟨V, 3, none⟩ = some (.float .f64 0) := hr.cell rfl
    have z4 : w1.cell? ⟨V, 4, none⟩ = some (.int .u8 0) := hr.cell rfl
    have zf := hr.frozen
    have HR1 := Lib.hid hr
    have HF1 := Lib.hid (HF0.out.trans hF)
    have HTS := Lib.hid hts
    have HT1 := Lib.hid (C0.mono hlo hF.below HT0.out)
    have HRD := Lib.hid hR
    have HTK := Lib.hid htk
    have hsz1 : V + 1 ≤ w1.heap.size := by have := hF.below.size; rw [HSZ.out] at this; exact this
    clear hr hF hts hempty hR htk HT0 HF0
    obtain ⟨tk, tl⟩ := t
    have HTT := Lib.hid htt
    clear htt
    by_cases h1 : tl = [69, 77, 80, 84, 89]
    · subst h1
      go_wp2_with fail
      have hend := (((((HR1.out.set 0 (.float .f64 0)).set 1 (.float .f64 0)).set 2 (.float .f64 0)).set 3 (.float .f64 0)).set 4 (.int .u8 0))
      refine bodyPost_ret (results_ctt rfl _ _ V 43 _ (0, 0) rfl hend Tryz.underlying43 info43) rfl ?_
      refine ⟨(((((HF1.out.setNew (by omega) (by omega) _).setNew (by omega) (by omega) _).setNew (by omega) (by omega) _).setNew (by omega) (by omega) _).setNew (by omega) (by omega) _), .inr (.inl ⟨?_, rfl⟩)⟩
      rw [HTS.out, progRead, if_pos (show ((tk, [69, 77, 80, 84, 89]) : Tok).2 = EMP from rfl)]
    · have h40 : tl = [40] := HTT.out.resolve_left h1
      subst h40
      clear h1
      have HZ2 : Hid (∀ t ∈ ts', t.1 = 49 → ∀ r, t.2 = 48 :: r → digN r = 0) := Lib.hid (fun t ht => HZ.out t (by rw [HTS.out]; exact List.mem_cons_of_mem _ ht))
      have HG2 : Hid (∀ t ∈ ts', Good t) := Lib.hid (fun t ht => HG.out t (by rw [HTS.out]; exact List.mem_cons_of_mem _ ht))
      have hpt := point_any C0 hlo hd HT1.out HRD.out HTK.out HZ2.out HG2.out
      go_wp2_with fail
      go_at_call 46
      refine hpt.mono ?_
      rintro e w2 ⟨hF2, ⟨hn, v, ⟨vt, vd, rfl⟩, rfl⟩ | ⟨xs, r, hn, hxl, he, hT2, n2, j2, u2, hR2, htk2, hu2⟩⟩
      · have hr := row43 hF2 HR1.out (by omega) (by omega)
        have z20 : w2.cell? ⟨V, 0, none⟩ = some (.float .f64 0) := hr.cell rfl
        have z21 : w2.cell? ⟨V, 1, none⟩ = some (.float .f64 0) := hr.cell rfl
        have z22 : w2.cell? ⟨V, 2, none⟩ = some (.float .f64 0) := hr.cell rfl
        have z23 : w2.cell? ⟨V, 3, none⟩ = some (.float .f64 0) := hr.cell rfl
        have z24 : w2.cell? ⟨V, 4, none⟩ = some (.int .u8 0) := hr.cell rfl
        have z2f := hr.frozen
        have HR2 := Lib.hid hr
        have HF2 := Lib.hid (HF1.out.trans hF2)
        have HN := Lib.hid hn
        have hsz2 : V + 1 ≤ w2.heap.size := Nat.le_trans hsz1 hF2.below.size
        have hbs2 : base ≤ w2.heap.size := by omega
        clear hr hF2 hn hpt z0 z1 z2 z3 z4 zf
        obtain ⟨V9, hV9⟩ : ∃ V9, w2.heap.size = V9 := ⟨_, rfl⟩
        have al := fun (A : Array Value) (j : Nat) => alloc_cell w2 (.cells A 43) (B := V) j (by omega)
        have a0 : ∀ A : Array Value, (w2.alloc (.cells A 43)).cell? ⟨V, 0, none⟩ = some (.float .f64 0) := fun A => (al A 0).1.trans z20
        have a1 : ∀ A : Array Value, (w2.alloc (.cells A 43)).cell? ⟨V, 1, none⟩ = some (.float .f64 0) := fun A => (al A 1).1.trans z21
        have a2 : ∀ A : Array Value, (w2.alloc (.cells A 43)).cell? ⟨V, 2, none⟩ = some (.float .f64 0) := fun A => (al A 2).1.trans z22
        have a3 : ∀ A : Array Value, (w2.alloc (.cells A 43)).cell? ⟨V, 3, none⟩ = some (.float .f64 0) := fun A => (al A 3).1.trans z23
        have a4 : ∀ A : Array Value, (w2.alloc (.cells A 43)).cell? ⟨V, 4, none⟩ = some (.int .u8 0) := fun A => (al A 4).1.trans z24
        have af : ∀ (A : Array Value) (j : Nat), (w2.alloc (.cells A 43)).frozen? ⟨V, j, none⟩ = false := fun A j => (al A j).2.trans (z2f j)
        clear al
        go_wp2_with fail
        have hend := ((((((HR2.out.alloc (.cells Z5 43)).set 0 (.float .f64 0)).set 1 (.float .f64 0)).set 2 (.float .f64 0)).set 3 (.float .f64 0)).set 4 (.int .u8 0))
        refine bodyPost_ret (results_ctt rfl _ _ V 43 _ (0, 0) rfl hend Tryz.underlying43 info43) rfl ?_
        refine ⟨((((((HF2.out.alloc hbs2 (.cells Z5 43)).setNew (by omega) (by omega) _).setNew (by omega) (by omega) _).setNew (by omega) (by omega) _).setNew (by omega) (by omega) _).setNew (by omega) (by omega) _), .inl ⟨?_, _, ⟨_, _, rfl⟩, rfl⟩⟩
        rw [HTS.out, progRead, if_neg (show ¬ ([40] : List UInt8) = EMP by decide), if_pos rfl]
        rw [HN.out]
        rfl
      · obtain ⟨y0, y1, y2, y3, hco⟩ : ∃ y0 y1 y2 y3 : Nat, coords d xs = #[.float .f64 y0, .float .f64 y1, .float .f64 y2, .float .f64 y3, .int .u8 (d : Int)] := ⟨_, _, _, _, rfl⟩
        rw [hco] at he
        subst he
        have hr := row43 hF2 HR1.out (by omega) (by omega)
        have z20 : w2.cell? ⟨V, 0, none⟩ = some (.float .f64 0) := hr.cell rfl
        have z21 : w2.cell? ⟨V, 1, none⟩ = some (.float .f64 0) := hr.cell rfl
        have z22 : w2.cell? ⟨V, 2, none⟩ = some (.float .f64 0) := hr.cell rfl
        have z23 : w2.cell? ⟨V, 3, none⟩ = some (.float .f64 0) := hr.cell rfl
        have z24 : w2.cell? ⟨V, 4, none⟩ = some (.int .u8 0) := hr.cell rfl
        have z2f := hr.frozen
        have HR2 := Lib.hid hr
        have HF2 := Lib.hid (HF1.out.trans hF2)
        have HN := Lib.hid hn
        have HCO := Lib.hid hco
        have HXL := Lib.hid hxl
        have hsz2 : V + 1 ≤ w2.heap.size := Nat.le_trans hsz1 hF2.below.size
        have hbs2 : base ≤ w2.heap.size := by omega
        obtain ⟨V9, hV9⟩ : ∃ V9, w2.heap.size = V9 := ⟨_, rfl⟩
        have hrp := rightParen_any (hR2.alloc (.cells #[.float .f64 y0, .float .f64 y1, .float .f64 y2, .float .f64 y3, .int .u8 (d : Int)] 43)) htk2 (fun t ht => HZ2.out t (by rw [hu2]; exact List.mem_append_right _ ht))
        have HA := Lib.hid (HR2.out.alloc (.cells #[.float .f64 y0, .float .f64 y1, .float .f64 y2, .float .f64 y3, .int .u8 (d : Int)] 43))
        have HB : Hid (Row (w2.alloc (.cells #[.float .f64 y0, .float .f64 y1, .float .f64 y2, .float .f64 y3, .int .u8 (d : Int)] 43)) V9 #[.float .f64 y0, .float .f64 y1, .float .f64 y2, .float .f64 y3, .int .u8 (d : Int)] 43) := Lib.hid (hV9 ▸ Row.new w2 _ 43)
        have HC := Lib.hid (HF2.out.alloc hbs2 (.cells #[.float .f64 y0, .float .f64 y1, .float .f64 y2, .float .f64 y3, .int .u8 (d : Int)] 43))
        have hsz3 : V9 + 1 ≤ (w2.alloc (.cells #[.float .f64 y0, .float .f64 y1, .float .f64 y2, .float .f64 y3, .int .u8 (d : Int)] 43)).heap.size := by simp [hV9]
        clear hr hF2 hn hpt hco hxl hR2 htk2 hu2 z20 z21 z22 z23 z24 z2f z0 z1 z2 z3 z4 zf
        go_wp2_with fail
        generalize w2.alloc (.cells #[.float .f64 y0, .float .f64 y1, .float .f64 y2, .float .f64 y3, .int .u8 (d : Int)] 43) = W3 at *
        go_at_call 47
        refine hrp.mono ?_
        rintro e w3 ⟨hF3, ⟨hts3, v, ⟨vt, vd, rfl⟩, rfl⟩ | ⟨t3, ts3, hts3, h41, rfl⟩⟩
        · have hr := row43 hF3 HA.out (by omega) (by omega)
          have z30 : w3.cell? ⟨V, 0, none⟩ = some (.float .f64 0) := hr.cell rfl
          have z31 : w3.cell? ⟨V, 1, none⟩ = some (.float .f64 0) := hr.cell rfl
          have z32 : w3.cell? ⟨V, 2, none⟩ = some (.float .f64 0) := hr.cell rfl
          have z33 : w3.cell? ⟨V, 3, none⟩ = some (.float .f64 0) := hr.cell rfl
          have z34 : w3.cell? ⟨V, 4, none⟩ = some (.int .u8 0) := hr.cell rfl
          have z3f := hr.frozen
          have HR3 := Lib.hid hr
          have HF3 := Lib.hid (HC.out.trans hF3)
          have HTS3 := Lib.hid hts3
          clear hr hF3 hts3 hrp
          go_wp2_with fail
          have hend := (((((HR3.out.set 0 (.float .f64 0)).set 1 (.float .f64 0)).set 2 (.float .f64 0)).set 3 (.float .f64 0)).set 4 (.int .u8 0))
          refine bodyPost_ret (results_ctt rfl _ _ V 43 _ (0, 0) rfl hend Tryz.underlying43 info43) rfl ?_
          refine ⟨(((((HF3.out.setNew (by omega) (by omega) _).setNew (by omega) (by omega) _).setNew (by omega) (by omega) _).setNew (by omega) (by omega) _).setNew (by omega) (by omega) _), .inl ⟨?_, _, ⟨_, _, rfl⟩, rfl⟩⟩
          rw [HTS.out, progRead, if_neg (show ¬ ([40] : List UInt8) = EMP by decide), if_pos rfl]
          rw [HN.out]
          rcases HTS3.out with rfl | ⟨t3, ts3, rfl, n1⟩
          · rfl
          · show (if t3.2 = [41] then _ else _) = _
            rw [if_neg n1]
        · have hr := row43 hF3 HA.out (by omega) (by omega)
          have z30 : w3.cell? ⟨V, 0, none⟩ = some (.float .f64 0) := hr.cell rfl
          have z31 : w3.cell? ⟨V, 1, none⟩ = some (.float .f64 0) := hr.cell rfl
          have z32 : w3.cell? ⟨V, 2, none⟩ = some (.float .f64 0) := hr.cell rfl
          have z33 : w3.cell? ⟨V, 3, none⟩ = some (.float .f64 0) := hr.cell rfl
          have z34 : w3.cell? ⟨V, 4, none⟩ = some (.int .u8 0) := hr.cell rfl
          have z3f := hr.frozen
          have hr9 := row43 hF3 HB.out (by omega) (by omega)
          have y30 : w3.cell? ⟨V9, 0, none⟩ = some (.float .f64 y0) := hr9.cell rfl
          have y31 : w3.cell? ⟨V9, 1, none⟩ = some (.float .f64 y1) := hr9.cell rfl
          have y32 : w3.cell? ⟨V9, 2, none⟩ = some (.float .f64 y2) := hr9.cell rfl
          have y33 : w3.cell? ⟨V9, 3, none⟩ = some (.float .f64 y3) := hr9.cell rfl
          have y34 : w3.cell? ⟨V9, 4, none⟩ = some (.int .u8 (d : Int)) := hr9.cell rfl
          have y3f := hr9.frozen
          have HR3 := Lib.hid hr
          have HF3 := Lib.hid (HC.out.trans hF3)
          have HTS3 := Lib.hid (And.intro hts3 h41)
          clear hr hr9 hF3 hts3 h41 hrp
          go_wp2_with fail
          have hend := (((((HR3.out.set 0 (.float .f64 y0)).set 1 (.float .f64 y1)).set 2 (.float .f64 y2)).set 3 (.float .f64 y3)).set 4 (.int .u8 (d : Int)))
          refine bodyPost_ret (results_ctt rfl _ _ V 43 _ (0, 0) rfl hend Tryz.underlying43 info43) rfl ?_
          refine ⟨(((((HF3.out.setNew (by omega) (by omega) _).setNew (by omega) (by omega) _).setNew (by omega) (by omega) _).setNew (by omega) (by omega) _).setNew (by omega) (by omega) _), .inr (.inr ⟨xs, ?_, HXL.out, ?_⟩)⟩
          · rw [HTS.out, progRead, if_neg (show ¬ ([40] : List UInt8) = EMP by decide), if_pos rfl]
            rw [HN.out, HTS3.out.1]
            show (if t3.2 = [41] then _ else _) = _
            rw [if_pos HTS3.out.2]
          · rw [HCO.out]
            rfl
end Go.Proofs.YtadpeebcombjnaaGreatDoor
namespace Go.Proofs.YtadpeebcombjnaaGreatDoor
open Go Go.Proofs Go.RowKit Go.Lib
set_option maxRecDepth 100000
theorem ready_new {base : Nat} {s : ByteArray} {w w' : World} {D : Array Value} {B R : Nat} (hrow : Row w' B D 103) (hpk : D[1048]? = some (.string ⟨#[]⟩))
    (hscn : Scn 1049 s.data.toList (.iface 116 (.pointer (some ⟨R, 0, none⟩))) 0 0 0 0 (-1) 0 (-2) (.slice none 0 0) .nilFunc 28 D) (hR : Row w' R #[.string s, .int .i64 0, .int .i64 (-1)] 126) (h1 : base ≤ R) (h2 : base ≤ B) (h3 : R ≠ B) (hb : Below base w w')
    (hbase : base ≤ w.heap.size) (hlow : 24 ≤ base) (hgl : Gl w) (hx : ∃ x, w.cell? ⟨1, 0, none⟩ = some (.string x)) (hsz : s.size ≤ 2000) {j : Bool} {ts : List Tok} (ht : toksAt (By s) j = some ts) : Ready base B R s w' 0 := by
  refine ⟨Nat.zero_le _, ⟨fun i hi => ?_, hsz, Nat.le_trans hbase hb.size, hlow, hgl.mono hb hlow⟩, h2, hx.imp fun x hx => low_cell hb (by omega) hx, .nilFunc, .inl ⟨rfl, 0, 0, D, 0, 0, 0, -1, .slice none 0 0, [], ⟨h2, h1, fun e => h3 e.symm, hrow, hscn, hpk, ⟨-1, hR⟩, ?_, Nat.le_refl _, Nat.zero_le _, rfl, Nat.le_refl _, rfl⟩, by decide, by decide⟩⟩
  · have := tok_asc _ _ j ts (Nat.le_refl _) ht s[i] (by
      have e := List.getElem_mem (l := s.data.toList) (n := i) (by rw [size_list]; exact hi)
      exact e)
    exact this
  · exact ⟨rfl, .inl ⟨rfl, rfl⟩⟩
theorem dimOf_any (d : Nat) (hd : d < 4) (w : World) : Calls Tryz.prog 13 #[.int .i64 (d : Nat)] w fun e w' => e = .returned (.int .u8 (d : Nat)) ∧ w' = w := by
  have hb : bits BinOp.and IntKind.i64 (d : Int) 3 = (d : Int) := by
    have : ∀ n : Fin 4, bits BinOp.and IntKind.i64 (n.val : Int) 3 = (n.val : Int) := by decide
    exact this ⟨d, hd⟩
  have hb2 : (d : Int) < 4 := by omega
  go_enter Tryz.func13, Tryz.ntmps13
  go_wp2
  go_ret
  refine ⟨?_, rfl⟩
  first | rfl | (congr 1; simp only [IntKind.wrap_u8]; congr 1; omega)
def DoorRes (PF : List UInt8 → Option Nat) (d : Nat) (ts : List Tok) (e : Ending) : Prop :=
  (progRead PF (wid d) ts = none ∧ ∃ v, IsErr v ∧ e = .returned (.tuple #[.agg #[.float .f64 0, .float .f64 0, .float .f64 0, .float .f64 0, .int .u8 0], .bool false, v])) ∨
    (progRead PF (wid d) ts = some none ∧ e = .returned (.tuple #[.agg #[.float .f64 0, .float .f64 0, .float .f64 0, .float .f64 0, .int .u8 0], .bool false, .nilIface])) ∨
    ∃ xs, progRead PF (wid d) ts = some (some xs) ∧ xs.length = wid d ∧ e = .returned (.tuple #[.agg (coords d xs), .bool true, .nilIface])
set_option maxHeartbeats 2000000 in
theorem door_any {lo : Nat} {T : World → Prop} {PF : List UInt8 → Option Nat} (C0 : PFC lo T PF) {s : ByteArray} {w : World} {d : Nat} (hd : d < 4) (hT : T w) (hlo : lo ≤ w.heap.size) (hgl : Gl w) (hx : ∃ x, w.cell? ⟨1, 0, none⟩ = some (.string x)) (hsz : s.size ≤ 2000)
    {ts : List Tok} (ht : toksAt (By s) false = some ts) (hz : ∀ t ∈ ts, t.1 = 49 → ∀ r, t.2 = 48 :: r → digN r = 0) :
    Calls Tryz.prog 12 #[.string s, .int .u8 (d : Nat)] w fun e w' => Below w.heap.size w w' ∧ DoorRes PF d ts e := by
  have hg := good_of _ _ false ts (Nat.le_refl _) ht
  obtain ⟨V, hV⟩ : ∃ V, w.heap.size = V := ⟨_, rfl⟩
  have hst := store_f
  have hB0 : Below V w (w.alloc (.cells #[.float .f64 0, .float .f64 0, .float .f64 0, .float .f64 0, .int .u8 0] 43)) := (Below.refl V w).alloc (by omega) _
  have hrow0 : Row (w.alloc (.cells #[.float .f64 0, .float .f64 0, .float .f64 0, .float .f64 0, .int .u8 0] 43)) V #[.float .f64 0, .float .f64 0, .float .f64 0, .float .f64 0, .int .u8 0] 43 := hV ▸ Row.new w _ 43
  have hs0 : (w.alloc (.cells #[.float .f64 0, .float .f64 0, .float .f64 0, .float .f64 0, .int .u8 0] 43)).heap.size = V + 1 := by simp [hV]
  rw [hV] at hlo
  have hlow : 24 ≤ V := Nat.le_trans C0.low hlo
  have hgl0 : Gl (w.alloc (.cells #[.float .f64 0, .float .f64 0, .float .f64 0, .float .f64 0, .int .u8 0] 43)) := hgl.mono hB0 hlow
  have hx0 : ∃ x, (w.alloc (.cells #[.float .f64 0, .float .f64 0, .float .f64 0, .float .f64 0, .int .u8 0] 43)).cell? ⟨1, 0, none⟩ = some (.string x) := hx.imp fun x hx => low_cell hB0 (by omega) hx
  have hT0 := C0.mono hlo hB0 hT
  have H := Lib.hid (And.intro hB0 (And.intro hrow0 (And.intro hgl0 (And.intro hx0 (And.intro hT0 (And.intro hs0 (And.intro ht (And.intro hz hg))))))))
  have HSZ := Lib.hid hsz
  clear hB0 hrow0 hs0 hgl0 hx0 hT0 ht hz hg hgl hx hT hsz
  go_enter Tryz.func12, Tryz.ntmps12
  go_wp2_with fail
  generalize w.alloc (.cells #[.float .f64 0, .float .f64 0, .float .f64 0, .float .f64 0, .int .u8 0] 43) = W at *
  go_at_call 24
  refine (newParser_any s W).mono ?_
  rintro e w1 ⟨D, B, R, rfl, hrow, hpk, hscn, hR, hRs, hBs, hRB, hb⟩
  obtain ⟨hB0, hrow0, hgl0, hx0, hT0, hs0, ht, hz, hg⟩ := H.out
  rw [hs0] at hRs hBs hb
  have hb' : Below V W w1 := ⟨hb.os, hb.tape, hb.output, hb.size, fun k hk => hb.block k (by omega)⟩
  have hrd : Ready V B R s w1 0 := ready_new hrow hpk hscn hR (by omega) (by omega) hRB hb' (by omega) hlow hgl0 hx0 HSZ.out ht
  have hpt := pointText_any C0 hlo hd (C0.mono hlo hb' hT0) hrd (by simpa using ht) hz hg
  have hrow1 : Row w1 V #[.float .f64 0, .float .f64 0, .float .f64 0, .float .f64 0, .int .u8 0] 43 := (hb.block V (by omega)).trans hrow0
  have HROW := Lib.hid hrow1
  have HB1 := Lib.hid (hB0.trans hb')
  clear H hB0 hrow0 hgl0 hx0 hT0 ht hz hg hrd hrow hpk hscn hR hb hb' hrow1 hs0
  go_wp2_with fail
  go_at_call 25
  refine hpt.mono ?_
  rintro e w2 ⟨hF, hres⟩
  have hr := row43 hF HROW.out (by omega) (by omega)
  have z0 : w2.cell? ⟨V, 0, none⟩ = some (.float .f64 0) := hr.cell rfl
  have z1 : w2.cell? ⟨V, 1, none⟩ = some (.float .f64 0) := hr.cell rfl
  have z2 : w2.cell? ⟨V, 2, none⟩ = some (.float .f64 0) := hr.cell rfl
  have z3 : w2.cell? ⟨V, 3, none⟩ = some (.float .f64 0) := hr.cell rfl
  have z4 : w2.cell? ⟨V, 4, none⟩ = some (.int .u8 0) := hr.cell rfl
  have zf := hr.frozen
  have HR := Lib.hid hr
  have HB2 := Lib.hid (HB1.out.trans hF.below)
  clear hr hF hpt
  rcases hres with ⟨hn, v, ⟨vt, vd, rfl⟩, rfl⟩ | ⟨hn, rfl⟩ | ⟨xs, hn, hxl, he⟩
  · have HN := Lib.hid hn
    clear hn
    go_wp2_with fail
    have hend := (((((HR.out.set 0 (.float .f64 0)).set 1 (.float .f64 0)).set 2 (.float .f64 0)).set 3 (.float .f64 0)).set 4 (.int .u8 0))
    refine bodyPost_ret (results_ctt rfl _ _ V 43 _ (0, 0) rfl hend Tryz.underlying43 info43) rfl ?_
    exact ⟨by rw [hV]; exact (((((HB2.out.setCell (p := ⟨V, 0, none⟩) (Nat.le_refl V) _).setCell (p := ⟨V, 1, none⟩) (Nat.le_refl V) _).setCell (p := ⟨V, 2, none⟩) (Nat.le_refl V) _).setCell (p := ⟨V, 3, none⟩) (Nat.le_refl V) _).setCell (p := ⟨V, 4, none⟩) (Nat.le_refl V) _), .inl ⟨HN.out, _, ⟨_, _, rfl⟩, rfl⟩⟩
  · have HN := Lib.hid hn
    clear hn
    go_wp2_with fail
    have hend := (((((HR.out.set 0 (.float .f64 0)).set 1 (.float .f64 0)).set 2 (.float .f64 0)).set 3 (.float .f64 0)).set 4 (.int .u8 0))
    refine bodyPost_ret (results_ctt rfl _ _ V 43 _ (0, 0) rfl hend Tryz.underlying43 info43) rfl ?_
    exact ⟨by rw [hV]; exact (((((HB2.out.setCell (p := ⟨V, 0, none⟩) (Nat.le_refl V) _).setCell (p := ⟨V, 1, none⟩) (Nat.le_refl V) _).setCell (p := ⟨V, 2, none⟩) (Nat.le_refl V) _).setCell (p := ⟨V, 3, none⟩) (Nat.le_refl V) _).setCell (p := ⟨V, 4, none⟩) (Nat.le_refl V) _), .inr (.inl ⟨HN.out, rfl⟩)⟩
  · obtain ⟨y0, y1, y2, y3, hco⟩ : ∃ y0 y1 y2 y3 : Nat, coords d xs = #[.float .f64 y0, .float .f64 y1, .float .f64 y2, .float .f64 y3, .int .u8 (d : Int)] := ⟨_, _, _, _, rfl⟩
    rw [hco] at he
    subst he
    have HN := Lib.hid hn
    have HCO := Lib.hid hco
    clear hn hco
    go_wp2_with fail
    have hend := (((((HR.out.set 0 (.float .f64 y0)).set 1 (.float .f64 y1)).set 2 (.float .f64 y2)).set 3 (.float .f64 y3)).set 4 (.int .u8 (d : Int)))
    refine bodyPost_ret (results_ctt rfl _ _ V 43 _ (0, 0) rfl hend Tryz.underlying43 info43) rfl ?_
    exact ⟨by rw [hV]; exact (((((HB2.out.setCell (p := ⟨V, 0, none⟩) (Nat.le_refl V) _).setCell (p := ⟨V, 1, none⟩) (Nat.le_refl V) _).setCell (p := ⟨V, 2, none⟩) (Nat.le_refl V) _).setCell (p := ⟨V, 3, none⟩) (Nat.le_refl V) _).setCell (p := ⟨V, 4, none⟩) (Nat.le_refl V) _), .inr (.inr ⟨xs, HN.out, hxl, by rw [HCO.out]; rfl⟩)⟩
end Go.Proofs.YtadpeebcombjnaaGreatDoor
