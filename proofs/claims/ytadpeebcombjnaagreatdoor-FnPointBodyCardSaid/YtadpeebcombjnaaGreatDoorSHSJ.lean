/- The reference's place: as many numbers as the type has. -/
import Derived.Test.YtadpeebcombjnaaGreatDoorSFSG
import Derived.Deep.RegionLaw
import Derived.Deep.AppendLies
namespace Go.Proofs.YtadpeebcombjnaaGreatDoor
open Go Go.Proofs Go.RowKit Go.Lib
set_option maxRecDepth 100000
theorem RD.keep {w w' : World} {r : Nat} {all ts : List Tok} {bad : Bool} {g o m c : Nat} (h : RD w r all ts bad g o m c) (hr : w'.heap[r]? = w.heap[r]?) (hg : w'.heap[g]? = w.heap[g]?) : RD w' r all ts bad g o m c := by
  refine ⟨hr.trans h.row, h.len, h.mc, h.cap, fun hp j hj => ?_, h.all'⟩
  rw [← h.pos hp j hj]
  unfold World.cell?
  rw [hg]
theorem RD.setBad {w : World} {r : Nat} {all ts : List Tok} {bad : Bool} {g o m c : Nat} (h : RD w r all ts bad g o m c) (hrg : r ≠ g) : RD (w.setCell ⟨r, 1, none⟩ (.bool true)) r all ts true g o m c := by
  refine ⟨h.row.set 1 _, h.len, h.mc, h.cap, fun hp j hj => ?_, h.all'⟩
  rw [World.cell?_setCell_other _ _ _ _ (by intro e; injection e with e _; exact hrg e)]
  exact h.pos hp j hj
def Res (PF : List UInt8 → Option Nat) (n : Nat) (ts : List Tok) (bad : Bool) (i : Nat) (xs : List Nat) (tsi : List Tok) (badi : Bool) : Prop :=
  (bad = false ∧ badi = false ∧ numsS PF n ts = (numsS PF (n - i) tsi).map (fun q => (xs ++ q.1, q.2))) ∨ (badi = true ∧ (bad = false → numsS PF n ts = none))
/-- What place holds while it reads: i numbers are there. -/
structure PL (lo : Nat) (T : World → Prop) (PF : List UInt8 → Option Nat) (n : Nat) (w0 : World) (r g : Nat) (all ts : List Tok) (bad : Bool) (w : World) (v : Value) (i : Nat) (xs : List Nat) (tsi : List Tok) (badi : Bool) (o m c : Nat) : Prop where
  mod : Mod (· = r) w0 w
  glob : T w
  own : w.ownsRow w0.heap.size 38 1 v i (xs.map fl)
  xl : xs.length = i
  rd : RD w r all tsi badi g o m c
  suf : ∃ u, ts = u ++ tsi
  res : Res PF n ts bad i xs tsi badi
theorem below_mod {r : Nat} {w w' : World} (hb : Below w.heap.size w w') : Mod (· = r) w w' := ⟨hb.os, hb.tape, hb.output, hb.size, fun k hk _ => hb.block k hk⟩
theorem mod_below {r lo : Nat} {w w' : World} (h : Mod (· = r) w w') (hr : lo ≤ r) (hl : lo ≤ w.heap.size) : Below lo w w' := h.below_of hl fun k hk e => by omega
/-- The end of a round: one number more has been laid behind the others. -/
theorem PL.push {lo : Nat} {T : World → Prop} {PF : List UInt8 → Option Nat} (C0 : PFC lo T PF) {n : Nat} {w0 : World} {r g : Nat} {all ts : List Tok} {bad : Bool} {w2 w3 : World} {v v3 : Value} {i x : Nat} {xs : List Nat} {tsi : List Tok} {badi : Bool} {o m c : Nat} {ob : Obj}
    (hmod : Mod (· = r) w0 w2) (hT : T w2) (hown : w2.ownsRow w0.heap.size 38 1 v i (xs.map fl)) (hxl : xs.length = i) (hrd : RD w2 r all tsi badi g o m c) (hsuf : ∃ u, ts = u ++ tsi)
    (hg : (w2.alloc ob).grownBy w3 v.ownBlock) (hown3 : w3.ownsRow w0.heap.size 38 1 v3 (i + 1) (xs.map fl ++ [fl x])) (hr0 : r < w0.heap.size) (hg0 : g < w0.heap.size) (hlo : lo ≤ r) (_hl0 : lo ≤ w0.heap.size) (_hi : i < n)
    (hres : (bad = false ∧ badi = false ∧ numsS PF n ts = (numsS PF (n - i - 1) tsi).map (fun q => (xs ++ x :: q.1, q.2))) ∨ (badi = true ∧ (bad = false → numsS PF n ts = none))) :
    PL lo T PF n w0 r g all ts bad w3 v3 (i + 1) (xs ++ [x]) tsi badi o m c := by
  have hs := hmod.size
  have hA : Mod (· = r) w0 (w2.alloc ob) := hmod.alloc ob
  have hmod3 : Mod (· = r) w0 w3 := hA.grown hg (fun k hk e => by have := own_low hown k e; omega)
  have hk : ∀ k, k < w0.heap.size → w3.heap[k]? = w2.heap[k]? := fun k hk => (hg.block k (by simp; omega) (fun e => by have := own_low hown k e.symm; omega)).trans (Below.heap_alloc w2 ob k (by omega))
  refine ⟨hmod3, ?_, by rw [List.map_append]; exact hown3, by rw [List.length_append, hxl]; rfl, hrd.keep (hk r hr0) (hk g hg0), hsuf, ?_⟩
  · refine C0.mono (Nat.le_refl lo) ?_ hT
    exact ⟨hg.os.trans rfl, hg.tape.trans rfl, hg.output.trans rfl, Nat.le_trans (by simp) hg.size, fun k hk2 => hk k (by omega)⟩
  · refine hres.imp (fun ⟨h1, h2, h3⟩ => ⟨h1, h2, ?_⟩) id
    rw [h3, show n - (i + 1) = n - i - 1 from by omega]
    congr 1
    funext q
    simp
theorem cat0 (l : List UInt8) : (⟨#[]⟩ : ByteArray) ++ ⟨l.toArray⟩ = ⟨l.toArray⟩ := ba_app [] l
theorem catm (l : List UInt8) : (⟨#[45]⟩ : ByteArray) ++ ⟨l.toArray⟩ = ⟨(45 :: l).toArray⟩ := ba_app [45] l
theorem numsS_some {PF : List UInt8 → Option Nat} {k x : Nat} {ts ts' : List Tok} (h : numS PF ts = some (x, ts')) : numsS PF (k + 1) ts = (numsS PF k ts').map fun q => (x :: q.1, q.2) := by rw [numsS, h]; rfl
theorem numsS_none {PF : List UInt8 → Option Nat} {k : Nat} {ts : List Tok} (h : numS PF ts = none) : numsS PF (k + 1) ts = none := by rw [numsS, h]; rfl
theorem res_some {PF : List UInt8 → Option Nat} {n i x : Nat} {ts tsi tsi' : List Tok} {xs : List Nat} {bad badi : Bool} (h : Res PF n ts bad i xs tsi badi)
    (hb : badi = false) (hi : i < n) (hs : numS PF tsi = some (x, tsi')) : bad = false ∧ numsS PF n ts = (numsS PF (n - i - 1) tsi').map (fun q => (xs ++ x :: q.1, q.2)) := by
  rcases h with ⟨h1, _, h3⟩ | ⟨h1, _⟩
  · refine ⟨h1, ?_⟩
    rw [h3, show n - i = (n - i - 1) + 1 from by omega, numsS_some hs, Option.map_map]
    rfl
  · rw [hb] at h1; exact absurd h1 (by decide)
theorem res_none {PF : List UInt8 → Option Nat} {n i : Nat} {ts tsi : List Tok} {xs : List Nat} {bad badi : Bool} (h : Res PF n ts bad i xs tsi badi)
    (hi : i < n) (hs : badi = true ∨ numS PF tsi = none) : bad = false → numsS PF n ts = none := by
  rcases h with ⟨h1, h2, h3⟩ | ⟨_, h2⟩
  · intro _
    rcases hs with hs | hs
    · rw [h2] at hs; exact absurd hs (by decide)
    · rw [h3, show n - i = (n - i - 1) + 1 from by omega, numsS_none hs]; rfl
  · exact h2
theorem dom_nil : Dom [] := .inl ⟨[], .inl rfl, .inl rfl⟩
theorem dom_minus : Dom [45] := .inl ⟨[], .inl rfl, .inr rfl⟩
theorem dom_num {u : List UInt8} (h : Good (49, u)) : Dom u ∧ Dom (45 :: u) := ⟨.inl ⟨u, .inr h, .inl rfl⟩, .inl ⟨u, .inr h, .inr rfl⟩⟩
def PlacePost (lo : Nat) (T : World → Prop) (PF : List UInt8 → Option Nat) (n : Nat) (r g : Nat) (all ts : List Tok) (bad : Bool) (w : World) (e : Ending) (w' : World) : Prop :=
  ∃ v xs tsi badi o m c, e = .returned v ∧ PL lo T PF n w r g all ts bad w' v n xs tsi badi o m c
set_option maxHeartbeats 8000000 in
theorem place_any {lo : Nat} {T : World → Prop} {PF : List UInt8 → Option Nat} (C0 : PFC lo T PF) {w : World} {r g o m c d : Nat} {all ts : List Tok} {bad : Bool} (hd : d < 4) (hT : T w) (h : RD w r all ts bad g o m c) (hrg : r ≠ g) (hg0 : g < w.heap.size) (hlo : lo ≤ r) (hgood : ∀ t ∈ ts, Good t) (hlen : ∀ t ∈ ts, t.2.length ≤ 2000) :
    Calls Tryz.prog 52 #[.pointer (some ⟨r, 0, none⟩), .int .i64 (d : Nat)] w (PlacePost lo T PF (wid d) r g all ts bad w) := by
  have hr0 : r < w.heap.size := lt_of_row h.row
  have hst := store_f
  have hw := width_any d hd w
  have hwl : wid d ≤ 4 := by unfold wid; split <;> split <;> omega
  have hc0 := cat0
  have hcm := catm
  have hPL : PL lo T PF (wid d) w r g all ts bad w (.slice none 0 0) 0 [] ts bad o m c := ⟨Mod.refl _ _, hT, own_alloc_nil _ _, rfl, h, ⟨[], rfl⟩, by
    cases bad with
    | false => exact .inl ⟨rfl, rfl, by rw [Nat.sub_zero]; simp⟩
    | true => exact .inr ⟨rfl, fun h => absurd h (by decide)⟩⟩
  have HPL := Lib.hid hPL
  have HGD := Lib.hid hgood
  have HLN := Lib.hid hlen
  have HC0 := Lib.hid C0
  clear hPL hgood hlen h hT C0
  generalize wid d = n at *
  go_enter Tryz.func52, Tryz.ntmps52
  go_wp2_with (go_at_call 35; refine hw.mono ?_; rintro _ wq ⟨rfl, hwq⟩; rw [hwq]; clear hwq)
  clear hw
  go_loopg [5, 6, 7, 8, 11] n (fun gh v mi x ok k wr => ∃ (i : Nat) (xs : List Nat) (tsi : List Tok) (badi : Bool) (o m c : Nat), i + gh = n ∧ k = .int .i64 i ∧ Hid (PL lo T PF n w r g all ts bad wr v i xs tsi badi o m c))
  case atStart => exact ⟨0, [], ts, bad, o, m, c, by omega, rfl, HPL⟩
  case round =>
    obtain ⟨i, xs, tsi, badi, o1, m1, c1, hi, rfl, HP⟩ := hrel
    by_cases hlt : i < n
    · have hmod := HP.out.mod
      have HT := Lib.hid HP.out.glob
      have HO := Lib.hid HP.out.own
      have HXL := Lib.hid HP.out.xl
      have HR := Lib.hid HP.out.rd
      have HS := Lib.hid HP.out.suf
      have HRES := Lib.hid HP.out.res
      have HM := Lib.hid hmod
      have hnx := rnext_any HR.out
      clear hmod HP
      by_cases h45 : nx tsi badi = 45
      · cases badi with
        | true => exact absurd h45 (show ¬ (0 : UInt8) = 45 by decide)
        | false =>
          cases tsi with
          | nil => exact absurd h45 (show ¬ (0 : UInt8) = 45 by decide)
          | cons t tsi' =>
            obtain ⟨tk, tl⟩ := t
            have htk45 : tk = 45 := h45
            subst htk45
            have hgt : Good (45, tl) := by obtain ⟨u, hu⟩ := HS.out; exact HGD.out _ (by rw [hu]; exact List.mem_append_right _ (List.mem_cons_self ..))
            have htl : tl = [45] := by
              cases hgt with
              | sign _ => rfl
            subst htl
            have HSUF : Hid (∃ u, ts = u ++ tsi') := Lib.hid (by obtain ⟨u, hu⟩ := HS.out; exact ⟨u ++ [(45, [45])], by rw [hu]; simp⟩)
            clear hgt h45
            have hnx : Calls Tryz.prog 51 #[.pointer (some ⟨r, 0, none⟩)] wr fun e w' => e = .returned (.int .u8 45) ∧ w' = wr := hnx
            have htk1 := take_any HR.out hrg 45 (by decide)
            go_wp2_with (go_at_call 51; refine hnx.mono ?_; rintro _ wq ⟨rfl, hwq⟩; rw [hwq]; clear hwq)
            go_at_call 38
            refine htk1.mono ?_
            rintro e w4 (⟨hk, _⟩ | ⟨_, t2, ts2, o2, m2, c2, vv, e1, _, rfl, rfl, hrd2⟩)
            · exact absurd rfl hk
            · injection e1 with e1 e2
              subst e1 e2
              clear htk1 hnx
              have HM6 := Lib.hid (HM.out.setCell (p := ⟨r, 0, none⟩) (fun _ => rfl) vv)
              have HT6 := Lib.hid (HC0.out.mono (base := lo) (Nat.le_refl lo) ((Below.refl lo wr).setCell (p := ⟨r, 0, none⟩) hlo vv) HT.out)
              have HO6 := Lib.hid (own_far_cells HO.out HR.out.row (by decide) (w' := wr.setCell ⟨r, 0, none⟩ vv) (fun g hg => set_oth _ _ _ _ _ hg))
              have HR6 := Lib.hid hrd2
              clear HM HT HO HR hrd2
              generalize wr.setCell ⟨r, 0, none⟩ vv = W4 at *
              have HM := HM6
              have HT := HT6
              have HO := HO6
              have HR := HR6
              clear HM6 HT6 HO6 HR6
              have hHR := HR.out
              have htk2 := take_any HR.out hrg 49 (by decide)
              clear hHR
              by_cases h49 : nx tsi' false = 49
              · cases tsi' with
                | nil => exact absurd h49 (show ¬ (0 : UInt8) = 49 by decide)
                | cons t3 ts3 =>
                  obtain ⟨uk, ul⟩ := t3
                  have huk : uk = 49 := h49
                  subst huk
                  have hmem : ((49, ul) : Tok) ∈ ts := by obtain ⟨u, hu⟩ := HSUF.out; rw [hu]; exact List.mem_append_right _ (List.mem_cons_self ..)
                  have HD := Lib.hid (dom_num (HGD.out _ hmem))
                  have hul : ul.length ≤ 2000 := HLN.out _ hmem
                  have HSUF2 : Hid (∃ u, ts = u ++ ts3) := Lib.hid (by obtain ⟨u, hu⟩ := HSUF.out; exact ⟨u ++ [(49, ul)], by rw [hu]; simp⟩)
                  clear hmem h49
                  go_wp2_with fail
                  go_at_call 38
                  refine htk2.mono ?_
                  rintro e w4 (⟨hk, _⟩ | ⟨_, t2, ts2, o2, m2, c2, vv, e1, _, rfl, rfl, hrd2⟩)
                  · exact absurd rfl hk
                  · injection e1 with e1 e2
                    subst e1 e2
                    clear htk2 HSUF
                    have HSUF := HSUF2
                    have HM6 := Lib.hid (HM.out.setCell (p := ⟨r, 0, none⟩) (fun _ => rfl) vv)
                    have HT6 := Lib.hid (HC0.out.mono (base := lo) (Nat.le_refl lo) ((Below.refl lo W4).setCell (p := ⟨r, 0, none⟩) hlo vv) HT.out)
                    have HO6 := Lib.hid (own_far_cells HO.out HR.out.row (by decide) (w' := W4.setCell ⟨r, 0, none⟩ vv) (fun g hg => set_oth _ _ _ _ _ hg))
                    have HR6 := Lib.hid hrd2
                    clear HM HT HO HR hrd2
                    generalize W4.setCell ⟨r, 0, none⟩ vv = W5 at *
                    have HM := HM6
                    have HT := HT6
                    have HO := HO6
                    have HR := HR6
                    clear HM6 HT6 HO6 HR6
                    have hrn := readNumber_any HC0.out HT.out (l := (45 :: ul)) (by have := HM.out.size; omega) (by rw [List.length_cons]; omega) (HD.out.2)
                    go_wp2_with fail
                    go_at_call 58
                    refine hrn.mono ?_
                    rintro e w5 ⟨hb5, ⟨x, hp, rfl⟩ | ⟨hp, x, rfl⟩⟩
                    · have hHM := HM.out.size
                      have HM5 := Lib.hid (HM.out.trans (below_mod (r := r) hb5) (fun _ _ h => h))
                      have HT5 := Lib.hid (HC0.out.mono (base := lo) (Nat.le_refl lo) ⟨hb5.os, hb5.tape, hb5.output, hb5.size, fun k hk => hb5.block k (by omega)⟩ HT.out)
                      have HO5 := Lib.hid (own_below HO.out hb5 (Nat.le_refl _))
                      have HR5 := Lib.hid (HR.out.keep (hb5.block r (by omega)) (hb5.block g (by omega)))
                      have HPX := Lib.hid hp
                      clear hb5 hp hrn HM HT HO HR
                      go_wp2_with (at_builtin; refine f_append rfl (.tmp 31) (.tmp 33) rfl (HO5.out.alloc _) (by omega) (by have := HM5.out.size; simp; omega) _ 1 #[.float .f64 x] (Row.new _ _ 38) rfl (by decide) (fun u hu => fl_one [x] u hu) rfl rfl ?_; intro v6 w6 hown6 hg6)
                      go_roundg (n - (i + 1))
                      case measure => omega
                      case rel => exact ⟨i + 1, xs ++ [x], ts3, false, _, _, _, by omega, by go_num, Lib.hid (PL.push HC0.out HM5.out HT5.out HO5.out HXL.out HR5.out HSUF.out hg6 hown6 hr0 hg0 hlo (by omega) hlt (have hr := res_some HRES.out rfl hlt (x := x) (tsi' := ts3) (by show ((PF (45 :: ul)).map fun x => (x, ts3)) = _; rw [HPX.out]; rfl); .inl ⟨hr.1, rfl, hr.2⟩))⟩
                    · have hHM := HM.out.size
                      have HM5 := Lib.hid (HM.out.trans (below_mod (r := r) hb5) (fun _ _ h => h))
                      have HT5 := Lib.hid (HC0.out.mono (base := lo) (Nat.le_refl lo) ⟨hb5.os, hb5.tape, hb5.output, hb5.size, fun k hk => hb5.block k (by omega)⟩ HT.out)
                      have HO5 := Lib.hid (own_below HO.out hb5 (Nat.le_refl _))
                      have HR5 := Lib.hid (HR.out.keep (hb5.block r (by omega)) (hb5.block g (by omega)))
                      have HPX := Lib.hid hp
                      clear hb5 hp hrn HM HT HO HR
                      have e1 : w5.cell? ⟨r, 1, none⟩ = some (.bool false) := HR5.out.row.cell (j := 1) rfl
                      have ef := HR5.out.row.frozen
                      go_upto_region 10 with (fail)
                      have HM6 := Lib.hid (HM5.out.setCell (p := ⟨r, 1, none⟩) (fun _ => rfl) (.bool true))
                      have HT6 := Lib.hid (HC0.out.mono (base := lo) (Nat.le_refl lo) ((Below.refl lo w5).setCell (p := ⟨r, 1, none⟩) hlo (.bool true)) HT5.out)
                      have HO6 := Lib.hid (own_far_cells HO5.out HR5.out.row (by decide) (w' := w5.setCell ⟨r, 1, none⟩ (.bool true)) (fun g hg => set_oth _ _ _ _ _ hg))
                      have HR6 := Lib.hid (HR5.out.setBad hrg)
                      clear HM5 HT5 HO5 HR5 e1 ef
                      generalize w5.setCell ⟨r, 1, none⟩ (.bool true) = W6 at *
                      have HM5 := HM6
                      have HT5 := HT6
                      have HO5 := HO6
                      have HR5 := HR6
                      clear HM6 HT6 HO6 HR6
                      go_wp2_with (at_builtin; refine f_append rfl (.tmp 31) (.tmp 33) rfl (HO5.out.alloc _) (by omega) (by have := HM5.out.size; simp; omega) _ 1 #[.float .f64 x] (Row.new _ _ 38) rfl (by decide) (fun u hu => fl_one [x] u hu) rfl rfl ?_; intro v6 w6 hown6 hg6)
                      go_roundg (n - (i + 1))
                      case measure => omega
                      case rel => exact ⟨i + 1, xs ++ [x], ts3, true, _, _, _, by omega, by go_num, Lib.hid (PL.push HC0.out HM5.out HT5.out HO5.out HXL.out HR5.out HSUF.out hg6 hown6 hr0 hg0 hlo (by omega) hlt (.inr ⟨rfl, res_none HRES.out hlt (.inr (by show ((PF (45 :: ul)).map fun x => (x, ts3)) = none; rw [HPX.out]; rfl))⟩))⟩
              · have HNO : Hid (numS PF ((45, [45]) :: tsi') = none) := Lib.hid (by
                  cases tsi' with
                  | nil => rfl
                  | cons t3 ts3 => show (if t3.1 = 49 then _ else none) = none; rw [if_neg (show ¬ t3.1 = 49 from h49)])
                go_wp2_with fail
                go_at_call 38
                refine htk2.mono ?_
                rintro e w4 (⟨_, rfl, rfl⟩ | ⟨hk, _⟩)
                · clear htk2 h49
                  have HM6 := Lib.hid (HM.out.setCell (p := ⟨r, 1, none⟩) (fun _ => rfl) (.bool true))
                  have HT6 := Lib.hid (HC0.out.mono (base := lo) (Nat.le_refl lo) ((Below.refl lo W4).setCell (p := ⟨r, 1, none⟩) hlo (.bool true)) HT.out)
                  have HO6 := Lib.hid (own_far_cells HO.out HR.out.row (by decide) (w' := W4.setCell ⟨r, 1, none⟩ (.bool true)) (fun g hg => set_oth _ _ _ _ _ hg))
                  have HR6 := Lib.hid (HR.out.setBad hrg)
                  clear HM HT HO HR
                  generalize W4.setCell ⟨r, 1, none⟩ (.bool true) = W5 at *
                  have HM := HM6
                  have HT := HT6
                  have HO := HO6
                  have HR := HR6
                  clear HM6 HT6 HO6 HR6
                  have hrn := readNumber_any HC0.out HT.out (l := [45]) (by have := HM.out.size; omega) (by decide) (dom_minus)
                  go_wp2_with fail
                  go_at_call 58
                  refine hrn.mono ?_
                  rintro e w5 ⟨hb5, ⟨x, hp, rfl⟩ | ⟨hp, x, rfl⟩⟩
                  · have hHM := HM.out.size
                    have HM5 := Lib.hid (HM.out.trans (below_mod (r := r) hb5) (fun _ _ h => h))
                    have HT5 := Lib.hid (HC0.out.mono (base := lo) (Nat.le_refl lo) ⟨hb5.os, hb5.tape, hb5.output, hb5.size, fun k hk => hb5.block k (by omega)⟩ HT.out)
                    have HO5 := Lib.hid (own_below HO.out hb5 (Nat.le_refl _))
                    have HR5 := Lib.hid (HR.out.keep (hb5.block r (by omega)) (hb5.block g (by omega)))
                    have HPX := Lib.hid hp
                    clear hb5 hp hrn HM HT HO HR
                    go_wp2_with (at_builtin; refine f_append rfl (.tmp 31) (.tmp 33) rfl (HO5.out.alloc _) (by omega) (by have := HM5.out.size; simp; omega) _ 1 #[.float .f64 x] (Row.new _ _ 38) rfl (by decide) (fun u hu => fl_one [x] u hu) rfl rfl ?_; intro v6 w6 hown6 hg6)
                    go_roundg (n - (i + 1))
                    case measure => omega
                    case rel => exact ⟨i + 1, xs ++ [x], tsi', true, _, _, _, by omega, by go_num, Lib.hid (PL.push HC0.out HM5.out HT5.out HO5.out HXL.out HR5.out HSUF.out hg6 hown6 hr0 hg0 hlo (by omega) hlt (.inr ⟨rfl, res_none HRES.out hlt (.inr HNO.out)⟩))⟩
                  · have hHM := HM.out.size
                    have HM5 := Lib.hid (HM.out.trans (below_mod (r := r) hb5) (fun _ _ h => h))
                    have HT5 := Lib.hid (HC0.out.mono (base := lo) (Nat.le_refl lo) ⟨hb5.os, hb5.tape, hb5.output, hb5.size, fun k hk => hb5.block k (by omega)⟩ HT.out)
                    have HO5 := Lib.hid (own_below HO.out hb5 (Nat.le_refl _))
                    have HR5 := Lib.hid (HR.out.keep (hb5.block r (by omega)) (hb5.block g (by omega)))
                    have HPX := Lib.hid hp
                    clear hb5 hp hrn HM HT HO HR
                    have e1 : w5.cell? ⟨r, 1, none⟩ = some (.bool true) := HR5.out.row.cell (j := 1) rfl
                    have ef := HR5.out.row.frozen
                    go_upto_region 10 with (fail)
                    have HM6 := Lib.hid (HM5.out.setCell (p := ⟨r, 1, none⟩) (fun _ => rfl) (.bool true))
                    have HT6 := Lib.hid (HC0.out.mono (base := lo) (Nat.le_refl lo) ((Below.refl lo w5).setCell (p := ⟨r, 1, none⟩) hlo (.bool true)) HT5.out)
                    have HO6 := Lib.hid (own_far_cells HO5.out HR5.out.row (by decide) (w' := w5.setCell ⟨r, 1, none⟩ (.bool true)) (fun g hg => set_oth _ _ _ _ _ hg))
                    have HR6 := Lib.hid (HR5.out.setBad hrg)
                    clear HM5 HT5 HO5 HR5 e1 ef
                    generalize w5.setCell ⟨r, 1, none⟩ (.bool true) = W6 at *
                    have HM5 := HM6
                    have HT5 := HT6
                    have HO5 := HO6
                    have HR5 := HR6
                    clear HM6 HT6 HO6 HR6
                    go_wp2_with (at_builtin; refine f_append rfl (.tmp 31) (.tmp 33) rfl (HO5.out.alloc _) (by omega) (by have := HM5.out.size; simp; omega) _ 1 #[.float .f64 x] (Row.new _ _ 38) rfl (by decide) (fun u hu => fl_one [x] u hu) rfl rfl ?_; intro v6 w6 hown6 hg6)
                    go_roundg (n - (i + 1))
                    case measure => omega
                    case rel => exact ⟨i + 1, xs ++ [x], tsi', true, _, _, _, by omega, by go_num, Lib.hid (PL.push HC0.out HM5.out HT5.out HO5.out HXL.out HR5.out HSUF.out hg6 hown6 hr0 hg0 hlo (by omega) hlt (.inr ⟨rfl, res_none HRES.out hlt (.inr HNO.out)⟩))⟩
                · exact absurd hk h49
      · have hzb : (((nx tsi badi).toNat : Int) == 45) = false := by
          rw [beq_eq_false_iff_ne]
          intro e
          exact h45 (UInt8.toNat_inj.1 (by have : (45 : UInt8).toNat = 45 := rfl; omega))
        by_cases h49 : nx tsi badi = 49
        · cases badi with
          | true => exact absurd h49 (show ¬ (0 : UInt8) = 49 by decide)
          | false =>
            cases tsi with
            | nil => exact absurd h49 (show ¬ (0 : UInt8) = 49 by decide)
            | cons t3 ts3 =>
              obtain ⟨uk, ul⟩ := t3
              have huk : uk = 49 := h49
              subst huk
              have hmem : ((49, ul) : Tok) ∈ ts := by obtain ⟨u, hu⟩ := HS.out; rw [hu]; exact List.mem_append_right _ (List.mem_cons_self ..)
              have HD := Lib.hid (dom_num (HGD.out _ hmem))
              have hul : ul.length ≤ 2000 := HLN.out _ hmem
              have HSUF : Hid (∃ u, ts = u ++ ts3) := Lib.hid (by obtain ⟨u, hu⟩ := HS.out; exact ⟨u ++ [(49, ul)], by rw [hu]; simp⟩)
              have hnx : Calls Tryz.prog 51 #[.pointer (some ⟨r, 0, none⟩)] wr fun e w' => e = .returned (.int .u8 49) ∧ w' = wr := hnx
              clear hmem h49 h45 hzb
              have htk2 := take_any HR.out hrg 49 (by decide)
              go_wp2_with (go_at_call 51; refine hnx.mono ?_; rintro _ wq ⟨rfl, hwq⟩; rw [hwq]; clear hwq)
              go_at_call 38
              refine htk2.mono ?_
              rintro e w4 (⟨hk, _⟩ | ⟨_, t2, ts2, o2, m2, c2, vv, e1, _, rfl, rfl, hrd2⟩)
              · exact absurd rfl hk
              · injection e1 with e1 e2
                subst e1 e2
                clear htk2 hnx
                have HM6 := Lib.hid (HM.out.setCell (p := ⟨r, 0, none⟩) (fun _ => rfl) vv)
                have HT6 := Lib.hid (HC0.out.mono (base := lo) (Nat.le_refl lo) ((Below.refl lo wr).setCell (p := ⟨r, 0, none⟩) hlo vv) HT.out)
                have HO6 := Lib.hid (own_far_cells HO.out HR.out.row (by decide) (w' := wr.setCell ⟨r, 0, none⟩ vv) (fun g hg => set_oth _ _ _ _ _ hg))
                have HR6 := Lib.hid hrd2
                clear HM HT HO HR hrd2
                generalize wr.setCell ⟨r, 0, none⟩ vv = W5 at *
                have HM := HM6
                have HT := HT6
                have HO := HO6
                have HR := HR6
                clear HM6 HT6 HO6 HR6
                have hrn := readNumber_any HC0.out HT.out (l := ul) (by have := HM.out.size; omega) (by omega) (HD.out.1)
                go_wp2_with fail
                go_at_call 58
                refine hrn.mono ?_
                rintro e w5 ⟨hb5, ⟨x, hp, rfl⟩ | ⟨hp, x, rfl⟩⟩
                · have hHM := HM.out.size
                  have HM5 := Lib.hid (HM.out.trans (below_mod (r := r) hb5) (fun _ _ h => h))
                  have HT5 := Lib.hid (HC0.out.mono (base := lo) (Nat.le_refl lo) ⟨hb5.os, hb5.tape, hb5.output, hb5.size, fun k hk => hb5.block k (by omega)⟩ HT.out)
                  have HO5 := Lib.hid (own_below HO.out hb5 (Nat.le_refl _))
                  have HR5 := Lib.hid (HR.out.keep (hb5.block r (by omega)) (hb5.block g (by omega)))
                  have HPX := Lib.hid hp
                  clear hb5 hp hrn HM HT HO HR
                  go_wp2_with (at_builtin; refine f_append rfl (.tmp 31) (.tmp 33) rfl (HO5.out.alloc _) (by omega) (by have := HM5.out.size; simp; omega) _ 1 #[.float .f64 x] (Row.new _ _ 38) rfl (by decide) (fun u hu => fl_one [x] u hu) rfl rfl ?_; intro v6 w6 hown6 hg6)
                  go_roundg (n - (i + 1))
                  case measure => omega
                  case rel => exact ⟨i + 1, xs ++ [x], ts3, false, _, _, _, by omega, by go_num, Lib.hid (PL.push HC0.out HM5.out HT5.out HO5.out HXL.out HR5.out HSUF.out hg6 hown6 hr0 hg0 hlo (by omega) hlt (have hr := res_some HRES.out rfl hlt (x := x) (tsi' := ts3) (by show ((PF ul).map fun x => (x, ts3)) = _; rw [HPX.out]; rfl); .inl ⟨hr.1, rfl, hr.2⟩))⟩
                · have hHM := HM.out.size
                  have HM5 := Lib.hid (HM.out.trans (below_mod (r := r) hb5) (fun _ _ h => h))
                  have HT5 := Lib.hid (HC0.out.mono (base := lo) (Nat.le_refl lo) ⟨hb5.os, hb5.tape, hb5.output, hb5.size, fun k hk => hb5.block k (by omega)⟩ HT.out)
                  have HO5 := Lib.hid (own_below HO.out hb5 (Nat.le_refl _))
                  have HR5 := Lib.hid (HR.out.keep (hb5.block r (by omega)) (hb5.block g (by omega)))
                  have HPX := Lib.hid hp
                  clear hb5 hp hrn HM HT HO HR
                  have e1 : w5.cell? ⟨r, 1, none⟩ = some (.bool false) := HR5.out.row.cell (j := 1) rfl
                  have ef := HR5.out.row.frozen
                  go_upto_region 10 with (fail)
                  have HM6 := Lib.hid (HM5.out.setCell (p := ⟨r, 1, none⟩) (fun _ => rfl) (.bool true))
                  have HT6 := Lib.hid (HC0.out.mono (base := lo) (Nat.le_refl lo) ((Below.refl lo w5).setCell (p := ⟨r, 1, none⟩) hlo (.bool true)) HT5.out)
                  have HO6 := Lib.hid (own_far_cells HO5.out HR5.out.row (by decide) (w' := w5.setCell ⟨r, 1, none⟩ (.bool true)) (fun g hg => set_oth _ _ _ _ _ hg))
                  have HR6 := Lib.hid (HR5.out.setBad hrg)
                  clear HM5 HT5 HO5 HR5 e1 ef
                  generalize w5.setCell ⟨r, 1, none⟩ (.bool true) = W6 at *
                  have HM5 := HM6
                  have HT5 := HT6
                  have HO5 := HO6
                  have HR5 := HR6
                  clear HM6 HT6 HO6 HR6
                  go_wp2_with (at_builtin; refine f_append rfl (.tmp 31) (.tmp 33) rfl (HO5.out.alloc _) (by omega) (by have := HM5.out.size; simp; omega) _ 1 #[.float .f64 x] (Row.new _ _ 38) rfl (by decide) (fun u hu => fl_one [x] u hu) rfl rfl ?_; intro v6 w6 hown6 hg6)
                  go_roundg (n - (i + 1))
                  case measure => omega
                  case rel => exact ⟨i + 1, xs ++ [x], ts3, true, _, _, _, by omega, by go_num, Lib.hid (PL.push HC0.out HM5.out HT5.out HO5.out HXL.out HR5.out HSUF.out hg6 hown6 hr0 hg0 hlo (by omega) hlt (.inr ⟨rfl, res_none HRES.out hlt (.inr (by show ((PF ul).map fun x => (x, ts3)) = none; rw [HPX.out]; rfl))⟩))⟩
        · have HNO : Hid (badi = true ∨ numS PF tsi = none) := Lib.hid (by
            cases badi with
            | true => exact .inl rfl
            | false =>
              right
              cases tsi with
              | nil => rfl
              | cons t3 ts3 => show (if t3.1 = 45 then _ else if t3.1 = 49 then _ else none) = none; rw [if_neg (show ¬ t3.1 = 45 from h45), if_neg (show ¬ t3.1 = 49 from h49)])
          have HN49 := Lib.hid h49
          obtain ⟨z, hz⟩ : ∃ z : Int, ((nx tsi badi).toNat : Int) = z := ⟨_, rfl⟩
          rw [hz] at hnx hzb
          clear hz h45 h49
          have htk := take_any HR.out hrg 49 (by decide)
          go_wp2_with (go_at_call 51; refine hnx.mono ?_; rintro _ wq ⟨rfl, hwq⟩; rw [hwq]; clear hwq)
          go_at_call 38
          refine htk.mono ?_
          rintro e w4 (⟨_, rfl, rfl⟩ | ⟨hk, _⟩)
          · clear htk hnx
            have HM6 := Lib.hid (HM.out.setCell (p := ⟨r, 1, none⟩) (fun _ => rfl) (.bool true))
            have HT6 := Lib.hid (HC0.out.mono (base := lo) (Nat.le_refl lo) ((Below.refl lo wr).setCell (p := ⟨r, 1, none⟩) hlo (.bool true)) HT.out)
            have HO6 := Lib.hid (own_far_cells HO.out HR.out.row (by decide) (w' := wr.setCell ⟨r, 1, none⟩ (.bool true)) (fun g hg => set_oth _ _ _ _ _ hg))
            have HR6 := Lib.hid (HR.out.setBad hrg)
            clear HM HT HO HR
            generalize wr.setCell ⟨r, 1, none⟩ (.bool true) = W5 at *
            have HM := HM6
            have HT := HT6
            have HO := HO6
            have HR := HR6
            clear HM6 HT6 HO6 HR6
            have HSUF := HS
            have hrn := readNumber_any HC0.out HT.out (l := []) (by have := HM.out.size; omega) (by decide) (dom_nil)
            go_wp2_with fail
            go_at_call 58
            refine hrn.mono ?_
            rintro e w5 ⟨hb5, ⟨x, hp, rfl⟩ | ⟨hp, x, rfl⟩⟩
            · have hHM := HM.out.size
              have HM5 := Lib.hid (HM.out.trans (below_mod (r := r) hb5) (fun _ _ h => h))
              have HT5 := Lib.hid (HC0.out.mono (base := lo) (Nat.le_refl lo) ⟨hb5.os, hb5.tape, hb5.output, hb5.size, fun k hk => hb5.block k (by omega)⟩ HT.out)
              have HO5 := Lib.hid (own_below HO.out hb5 (Nat.le_refl _))
              have HR5 := Lib.hid (HR.out.keep (hb5.block r (by omega)) (hb5.block g (by omega)))
              have HPX := Lib.hid hp
              clear hb5 hp hrn HM HT HO HR
              go_wp2_with (at_builtin; refine f_append rfl (.tmp 31) (.tmp 33) rfl (HO5.out.alloc _) (by omega) (by have := HM5.out.size; simp; omega) _ 1 #[.float .f64 x] (Row.new _ _ 38) rfl (by decide) (fun u hu => fl_one [x] u hu) rfl rfl ?_; intro v6 w6 hown6 hg6)
              go_roundg (n - (i + 1))
              case measure => omega
              case rel => exact ⟨i + 1, xs ++ [x], tsi, true, _, _, _, by omega, by go_num, Lib.hid (PL.push HC0.out HM5.out HT5.out HO5.out HXL.out HR5.out HSUF.out hg6 hown6 hr0 hg0 hlo (by omega) hlt (.inr ⟨rfl, res_none HRES.out hlt HNO.out⟩))⟩
            · have hHM := HM.out.size
              have HM5 := Lib.hid (HM.out.trans (below_mod (r := r) hb5) (fun _ _ h => h))
              have HT5 := Lib.hid (HC0.out.mono (base := lo) (Nat.le_refl lo) ⟨hb5.os, hb5.tape, hb5.output, hb5.size, fun k hk => hb5.block k (by omega)⟩ HT.out)
              have HO5 := Lib.hid (own_below HO.out hb5 (Nat.le_refl _))
              have HR5 := Lib.hid (HR.out.keep (hb5.block r (by omega)) (hb5.block g (by omega)))
              have HPX := Lib.hid hp
              clear hb5 hp hrn HM HT HO HR
              have e1 : w5.cell? ⟨r, 1, none⟩ = some (.bool true) := HR5.out.row.cell (j := 1) rfl
              have ef := HR5.out.row.frozen
              go_upto_region 10 with (fail)
              have HM6 := Lib.hid (HM5.out.setCell (p := ⟨r, 1, none⟩) (fun _ => rfl) (.bool true))
              have HT6 := Lib.hid (HC0.out.mono (base := lo) (Nat.le_refl lo) ((Below.refl lo w5).setCell (p := ⟨r, 1, none⟩) hlo (.bool true)) HT5.out)
              have HO6 := Lib.hid (own_far_cells HO5.out HR5.out.row (by decide) (w' := w5.setCell ⟨r, 1, none⟩ (.bool true)) (fun g hg => set_oth _ _ _ _ _ hg))
              have HR6 := Lib.hid (HR5.out.setBad hrg)
              clear HM5 HT5 HO5 HR5 e1 ef
              generalize w5.setCell ⟨r, 1, none⟩ (.bool true) = W6 at *
              have HM5 := HM6
              have HT5 := HT6
              have HO5 := HO6
              have HR5 := HR6
              clear HM6 HT6 HO6 HR6
              go_wp2_with (at_builtin; refine f_append rfl (.tmp 31) (.tmp 33) rfl (HO5.out.alloc _) (by omega) (by have := HM5.out.size; simp; omega) _ 1 #[.float .f64 x] (Row.new _ _ 38) rfl (by decide) (fun u hu => fl_one [x] u hu) rfl rfl ?_; intro v6 w6 hown6 hg6)
              go_roundg (n - (i + 1))
              case measure => omega
              case rel => exact ⟨i + 1, xs ++ [x], tsi, true, _, _, _, by omega, by go_num, Lib.hid (PL.push HC0.out HM5.out HT5.out HO5.out HXL.out HR5.out HSUF.out hg6 hown6 hr0 hg0 hlo (by omega) hlt (.inr ⟨rfl, res_none HRES.out hlt HNO.out⟩))⟩
          · exact absurd hk HN49.out
    · obtain rfl : i = n := by omega
      go_wp2_with fail
      go_ret
      exact ⟨_, xs, tsi, badi, o1, m1, c1, rfl, HP.out⟩
end Go.Proofs.YtadpeebcombjnaaGreatDoor
namespace Go.Proofs.YtadpeebcombjnaaGreatDoor
open Go Go.Proofs Go.RowKit Go.Lib
set_option maxRecDepth 100000
def bodyS (PF : List UInt8 → Option Nat) (w : Nat) : List Tok → Option (Option (List Nat) × List Tok)
  | [] => none
  | t :: ts => if t.1 = 97 ∧ t.2 = EMP then some (none, ts) else if t.1 = 40 then (numsS PF w ts).bind fun p => (match p.2 with | u :: us => if u.1 = 41 then some (some p.1, us) else none | [] => none) else none
theorem spec_body (PF : List UInt8 → Option Nat) (w : Nat) (ts : List Tok) : specRead PF w ts = (bodyS PF w ts).bind fun p => if p.2 = [] then some p.1 else none := by
  cases ts with
  | nil => rfl
  | cons t ts =>
    rw [specRead, bodyS]
    by_cases h1 : t.1 = 97 ∧ t.2 = EMP
    · rw [if_pos h1, if_pos h1]; rfl
    · rw [if_neg h1, if_neg h1]
      by_cases h2 : t.1 = 40
      · rw [if_pos h2, if_pos h2]
        cases hn : numsS PF w ts with
        | none => rfl
        | some p =>
          obtain ⟨xs, r⟩ := p
          cases r with
          | nil => rfl
          | cons u us =>
            simp only [Option.bind_some]
            by_cases h3 : u.1 = 41
            · rw [if_pos h3, Option.bind_some]
              by_cases h4 : us = []
              · rw [if_pos ⟨h3, h4⟩, if_pos h4]
              · rw [if_neg (fun h => h4 h.2), if_neg h4]
            · rw [if_neg h3, if_neg (fun h => h3 h.1)]; rfl
      · rw [if_neg h2, if_neg h2]; rfl
/-- What the reader leaves behind a body. -/
def BodyRes (PF : List UInt8 → Option Nat) (n : Nat) (ts : List Tok) (xs : List Nat) (ts' : List Tok) (bad' : Bool) : Prop :=
  (bad' = false ∧ ∃ o, bodyS PF n ts = some (o, ts') ∧ xs = o.getD []) ∨ (bad' = true ∧ bodyS PF n ts = none)
def BodyPost (T : World → Prop) (PF : List UInt8 → Option Nat) (d r g : Nat) (all ts : List Tok) (w : World) (e : Ending) (w' : World) : Prop :=
  Mod (· = r) w w' ∧ T w' ∧ ∃ v xs ts' bad' o m c, e = .returned (.agg #[.int .i64 1, .int .i64 (d : Int), v, .slice none 0 0]) ∧ w'.ownsRow w.heap.size 38 1 v xs.length (xs.map fl) ∧ ((xs = [] ∧ v = .slice none 0 0) ∨ xs.length = wid d) ∧ RD w' r all ts' bad' g o m c ∧ BodyRes PF (wid d) ts xs ts' bad'
/-- What take leaves, whether it took or not. -/
def Took (r g : Nat) (all ts : List Tok) (bad : Bool) (k : UInt8) (w : World) (e : Ending) (w' : World) : Prop :=
  ∃ l ts' bad' o m c, e = .returned (.string l) ∧ Mod (· = r) w w' ∧ RD w' r all ts' bad' g o m c ∧ (∃ u, ts = u ++ ts') ∧
    ((bad = false ∧ bad' = false ∧ ∃ t, ts = t :: ts' ∧ t.1 = k) ∨ (bad' = true ∧ (bad = true ∨ ¬ ∃ t u, ts = t :: u ∧ t.1 = k)))
theorem take_join {r g : Nat} {all ts : List Tok} {bad : Bool} {k : UInt8} {w : World} {o m c : Nat} (hR : RD w r all ts bad g o m c) (hrg : r ≠ g) (hk0 : k ≠ 0) : Calls Tryz.prog 38 #[.pointer (some ⟨r, 0, none⟩), .int .u8 (k.toNat : Int)] w (Took r g all ts bad k w) := by
  refine (take_any hR hrg k hk0).mono ?_
  rintro e w' (⟨hk, rfl, rfl⟩ | ⟨hk, t, ts', o, m, c, v, rfl, rfl, rfl, rfl, hr⟩)
  · refine ⟨_, ts, true, _, _, _, rfl, (Mod.refl (· = r) w).setCell (p := ⟨r, 1, none⟩) (fun _ => rfl) _, hR.setBad hrg, ⟨[], rfl⟩, .inr ⟨rfl, ?_⟩⟩
    cases bad with
    | true => exact .inl rfl
    | false =>
      right
      rintro ⟨t, u, rfl, rfl⟩
      exact hk rfl
  · exact ⟨_, ts', false, _, _, _, rfl, (Mod.refl (· = r) w).setCell (p := ⟨r, 0, none⟩) (fun _ => rfl) _, hr, ⟨[t], rfl⟩, .inl ⟨rfl, rfl, t, rfl, hk⟩⟩
theorem body_res {PF : List UInt8 → Option Nat} {n : Nat} {ts ts1 ts2 ts3 : List Tok} {b1 b2 b3 : Bool} {xs : List Nat}
    (h0 : ¬ ∃ ts', ts = (97, EMP) :: ts' ∧ false = false)
    (h1 : (false = false ∧ b1 = false ∧ ∃ t, ts = t :: ts1 ∧ t.1 = 40) ∨ (b1 = true ∧ (false = true ∨ ¬ ∃ t u, ts = t :: u ∧ t.1 = 40)))
    (h2 : Res PF n ts1 b1 n xs ts2 b2)
    (h3 : (b2 = false ∧ b3 = false ∧ ∃ t, ts2 = t :: ts3 ∧ t.1 = 41) ∨ (b3 = true ∧ (b2 = true ∨ ¬ ∃ t u, ts2 = t :: u ∧ t.1 = 41))) : BodyRes PF n ts xs ts3 b3 := by
  have hb0 : ∀ t us, ts = t :: us → ¬ (t.1 = 97 ∧ t.2 = EMP) := by
    rintro ⟨a, b⟩ us rfl ⟨rfl, rfl⟩
    exact h0 ⟨us, rfl, rfl⟩
  rcases h1 with ⟨_, hb1, t0, rfl, ht0⟩ | ⟨hb1, h1⟩
  · have hS : bodyS PF n (t0 :: ts1) = (numsS PF n ts1).bind fun p => (match p.2 with | u :: us => if u.1 = 41 then some (some p.1, us) else none | [] => none) := by
      rw [bodyS, if_neg (hb0 _ _ rfl), if_pos ht0]
    rcases h2 with ⟨_, hb2, h2⟩ | ⟨hb2, h2⟩
    · have hn : numsS PF n ts1 = some (xs, ts2) := by
        rw [h2, Nat.sub_self, numsS]; simp
      rcases h3 with ⟨_, hb3, t1, rfl, ht1⟩ | ⟨hb3, h3⟩
      · exact .inl ⟨hb3, some xs, by rw [hS, hn, Option.bind_some]; simp [ht1], rfl⟩
      · refine .inr ⟨hb3, ?_⟩
        rw [hS, hn, Option.bind_some]
        rcases h3 with h3 | h3
        · rw [hb2] at h3; cases h3
        · cases ts2 with
          | nil => rfl
          | cons t u => show (if t.1 = 41 then _ else none) = none; rw [if_neg (fun e => h3 ⟨t, u, rfl, e⟩)]
    · refine .inr ⟨?_, ?_⟩
      · rcases h3 with ⟨h3, _⟩ | ⟨h3, _⟩
        · rw [hb2] at h3; cases h3
        · exact h3
      · rw [hS, h2 hb1]; rfl
  · have hb2 : b2 = true := by
      rcases h2 with ⟨h2, _⟩ | ⟨h2, _⟩
      · rw [hb1] at h2; cases h2
      · exact h2
    refine .inr ⟨?_, ?_⟩
    · rcases h3 with ⟨h3, _⟩ | ⟨h3, _⟩
      · rw [hb2] at h3; cases h3
      · exact h3
    · rcases h1 with h1 | h1
      · cases h1
      · cases ts with
        | nil => rfl
        | cons t u => rw [bodyS, if_neg (hb0 _ _ rfl), if_neg (fun e => h1 ⟨t, u, rfl, e⟩)]
theorem RD.drewN {w : World} {r : Nat} {all ts : List Tok} {bad : Bool} {g o m c : Nat} (h : RD w r all ts bad g o m c) (n : Nat) : RD (w.drewN n) r all ts bad g o m c := h.keep rfl rfl
/-- What body holds once the place is read. -/
structure BS (T : World → Prop) (d r g V : Nat) (all ts : List Tok) (w W : World) (v : Value) (xs : List Nat) (bad : Bool) (o m c : Nat) : Prop where
  mod : Mod (· = r) w W
  glob : T W
  sz : V + 2 ≤ W.heap.size
  own : W.ownsRow V 38 1 v xs.length (xs.map fl)
  rd : RD W r all ts bad g o m c
  row0 : Row W V #[.int .i64 0, .int .i64 0, .slice none 0 0, .slice none 0 0] 33
  row1 : Row W (V + 1) #[.int .i64 1, .int .i64 (d : Int), v, .slice none 0 0] 33
theorem BS.keep {lo : Nat} {T : World → Prop} {PF : List UInt8 → Option Nat} (C0 : PFC lo T PF) {d r g V : Nat} {all ts ts' : List Tok} {w W W' : World} {v : Value} {xs : List Nat} {bad bad' : Bool} {o m c o' m' c' : Nat} (h : BS T d r g V all ts w W v xs bad o m c) (hm : Mod (· = r) W W') (hrd : RD W' r all ts' bad' g o' m' c') (hlo : lo ≤ r) (hr0 : r < V) : BS T d r g V all ts' w W' v xs bad' o' m' c' := by
  have hsz := h.sz
  have := hm.size
  refine ⟨h.mod.trans hm (fun _ _ h => h), C0.mono (Nat.le_refl lo) (mod_below hm hlo (by omega)) h.glob, by omega, ?_, hrd, h.row0.keep hm (by omega), h.row1.keep hm (by omega)⟩
  refine h.own.kept (row := some r) ⟨hm.os, hm.tape, hm.output, hm.size, fun k hk hne => hm.block k hk (fun e => hne (by rw [e]))⟩ ?_
  right
  intro e
  have := (h.own.lt r e).1
  omega
theorem BS.mk7 {lo : Nat} {T : World → Prop} {PF : List UInt8 → Option Nat} (C0 : PFC lo T PF) {n d r g V : Nat} {all ts tsi : List Tok} {w w2 w5 w6 : World} {xs : List Nat} {badi bad : Bool} {o m c g5 cap5 g6 cap6 : Nat}
    (hV : w.heap.size = V) (hM : Mod (· = r) w w2) (hsz : V + 2 ≤ w2.heap.size) (hPL : PL lo T PF n w2.drew r g all ts bad w5 (.slice (some ⟨g5, 0, none⟩) n cap5) n xs tsi badi o m c) (hr0 : r < V) (hg0 : g < V) (hlo : lo ≤ r)
    (hrow0 : Row w2 V #[.int .i64 0, .int .i64 0, .slice none 0 0, .slice none 0 0] 33) (hrow1 : Row w6 (V + 1) #[.int .i64 1, .int .i64 (d : Int), .slice none 0 0, .slice none 0 0] 33) (hown : w6.ownsRow V 38 1 (.slice (some ⟨g6, 0, none⟩) (0 + n) cap6) (0 + n) ([] ++ xs.map fl)) (hg : w5.grownBy w6 (Value.slice none 0 0).ownBlock) (hat : (Value.slice none 0 0).ownBlock = some g6 ∨ g6 = w5.heap.size) :
    BS T d r g V all tsi w (w6.setCell ⟨V + 1, 2, none⟩ (.slice (some ⟨g6, 0, none⟩) n cap6)) (.slice (some ⟨g6, 0, none⟩) n cap6) xs badi o m c := by
  rw [Nat.zero_add, List.nil_append] at hown
  have hm5 : Mod (· = r) w2 w5 := ⟨hPL.mod.os, hPL.mod.tape, hPL.mod.output, hPL.mod.size, hPL.mod.block⟩
  have hs5 := hm5.size
  have hs6 := hg.size
  have hg6 : g6 = w5.heap.size := by
    rcases hat with h | h
    · cases h
    · exact h
  have hm6 : Mod (· = r) w2 w6 := hm5.grown hg (fun k _ e => by cases e)
  have hm7 := (hM.trans hm6 (fun _ _ h => h)).setCell (p := ⟨V + 1, 2, none⟩) (fun h => absurd h (by show ¬ V + 1 < w.heap.size; omega)) (.slice (some ⟨g6, 0, none⟩) n cap6)
  have hk6 : ∀ k, k < V → (w6.setCell ⟨V + 1, 2, none⟩ (.slice (some ⟨g6, 0, none⟩) n cap6)).heap[k]? = w5.heap[k]? := fun k hk => (heap_setCell_other _ _ _ _ (by show k ≠ V + 1; omega)).trans (hg.block k (by omega) (by intro e; cases e))
  refine ⟨hm7, ?_, ?_, ?_, hPL.rd.keep (hk6 r hr0) (hk6 g hg0), ?_, ?_⟩
  · refine C0.mono (Nat.le_refl lo) ?_ hPL.glob
    exact ⟨hg.os, hg.tape, hg.output, by rw [World.size_setCell]; exact hs6, fun k hk => hk6 k (by omega)⟩
  · rw [World.size_setCell]; omega
  · have hx := hPL.xl
    rw [hx]
    exact own_far_cells hown hrow1 (by decide) (fun k hk => heap_setCell_other _ _ _ _ hk)
  · exact (hrow0.keep hm6 (by omega)).far (p := ⟨V + 1, 2, none⟩) (show V ≠ V + 1 by omega) _
  · exact hrow1.set 2 _
theorem BS.fin {lo : Nat} {T : World → Prop} {PF : List UInt8 → Option Nat} (C0 : PFC lo T PF) {d r g V : Nat} {all ts : List Tok} {w W W' : World} {v : Value} {xs : List Nat} {bad : Bool} {o m c : Nat} (h : BS T d r g V all ts w W v xs bad o m c) (hV : w.heap.size = V) (hm : Mod (· = V) W W') (hlo : lo ≤ r) (hr0 : r < V) (hg0 : g < V) :
    Mod (· = r) w W' ∧ T W' ∧ W'.ownsRow w.heap.size 38 1 v xs.length (xs.map fl) ∧ RD W' r all ts bad g o m c := by
  have hsz := h.sz
  have := hm.size
  refine ⟨h.mod.trans hm (fun k hk e => by omega), C0.mono (Nat.le_refl lo) (hm.below_of (by omega) (fun k hk e => by omega)) h.glob, ?_, h.rd.keep (hm.block r (by omega) (by omega)) (hm.block g (by omega) (by omega))⟩
  rw [hV]
  refine h.own.kept (row := some V) ⟨hm.os, hm.tape, hm.output, hm.size, fun k hk hne => hm.block k hk (fun e => hne (by rw [e]))⟩ ?_
  rcases h.own.2 with ⟨rfl, _⟩ | ⟨gg, cap, cur, rfl, _, hh, _⟩
  · exact .inl rfl
  · right
    intro e
    injection e with e
    subst e
    have := h.row0
    rw [Row, hh] at this
    injection this with this
    injection this with _ this
    exact absurd this (by decide)
set_option maxHeartbeats 8000000 in
theorem body_any {lo : Nat} {T : World → Prop} {PF : List UInt8 → Option Nat} (C0 : PFC lo T PF) {w : World} {r g o m c d : Nat} {all ts : List Tok} (hd : d < 4) (hT : T w) (h : RD w r all ts false g o m c) (hrg : r ≠ g) (hg0 : g < w.heap.size) (hlo : lo ≤ r) (hgood : ∀ t ∈ ts, Good t) (hlen : ∀ t ∈ ts, t.2.length ≤ 2000) :
    Calls Tryz.prog 42 #[.pointer (some ⟨r, 0, none⟩), .int .i64 1, .int .i64 (d : Nat)] w (BodyPost T PF d r g all ts w) := by
  have hr0 : r < w.heap.size := lt_of_row h.row
  have hst := store_f
  obtain ⟨V, hV⟩ : ∃ V, w.heap.size = V := ⟨_, rfl⟩
  rw [hV] at hr0 hg0
  have hrow0 : Row ((w.alloc (.cells #[.int .i64 0, .int .i64 0, .slice none 0 0, .slice none 0 0] 33)).alloc (.cells #[.int .i64 1, .int .i64 (d : Int), .slice none 0 0, .slice none 0 0] 33)) V #[.int .i64 0, .int .i64 0, .slice none 0 0, .slice none 0 0] 33 := by rw [← hV]; exact (Row.new w _ 33).alloc _
  have hrow1 : Row ((w.alloc (.cells #[.int .i64 0, .int .i64 0, .slice none 0 0, .slice none 0 0] 33)).alloc (.cells #[.int .i64 1, .int .i64 (d : Int), .slice none 0 0, .slice none 0 0] 33)) (V + 1) #[.int .i64 1, .int .i64 (d : Int), .slice none 0 0, .slice none 0 0] 33 := by rw [← hV]; exact heap_alloc2_new w _ _
  have hmod : Mod (· = r) w ((w.alloc (.cells #[.int .i64 0, .int .i64 0, .slice none 0 0, .slice none 0 0] 33)).alloc (.cells #[.int .i64 1, .int .i64 (d : Int), .slice none 0 0, .slice none 0 0] 33)) := ((Mod.refl _ w).alloc _).alloc _
  have hsz : ((w.alloc (.cells #[.int .i64 0, .int .i64 0, .slice none 0 0, .slice none 0 0] 33)).alloc (.cells #[.int .i64 1, .int .i64 (d : Int), .slice none 0 0, .slice none 0 0] 33)).heap.size = V + 2 := by simp [hV]
  have hk : ∀ k, k < V → ((w.alloc (.cells #[.int .i64 0, .int .i64 0, .slice none 0 0, .slice none 0 0] 33)).alloc (.cells #[.int .i64 1, .int .i64 (d : Int), .slice none 0 0, .slice none 0 0] 33)).heap[k]? = w.heap[k]? := fun k hk => (Below.heap_alloc _ _ k (by simp; omega)).trans (Below.heap_alloc w _ k (by omega))
  have hrd := h.keep (hk r hr0) (hk g hg0)
  have hT1 := C0.mono (base := lo) (Nat.le_refl lo) ⟨hmod.os, hmod.tape, hmod.output, hmod.size, fun k hk2 => hk k (by omega)⟩ hT
  have HROW0 := Lib.hid hrow0
  have HROW1 := Lib.hid hrow1
  have HM := Lib.hid hmod
  have HSZ := Lib.hid hsz
  have HR := Lib.hid hrd
  have HT := Lib.hid hT1
  have HGD := Lib.hid hgood
  have HLN := Lib.hid hlen
  have HC0 := Lib.hid C0
  clear hrow0 hmod hsz hk hrd hT1 hgood hlen h hT C0
  have p0 : ((w.alloc (.cells #[.int .i64 0, .int .i64 0, .slice none 0 0, .slice none 0 0] 33)).alloc (.cells #[.int .i64 1, .int .i64 (d : Int), .slice none 0 0, .slice none 0 0] 33)).cell? ⟨(V + 1), 0, none⟩ = some (.int .i64 1) := hrow1.cell rfl
  have p1 : ((w.alloc (.cells #[.int .i64 0, .int .i64 0, .slice none 0 0, .slice none 0 0] 33)).alloc (.cells #[.int .i64 1, .int .i64 (d : Int), .slice none 0 0, .slice none 0 0] 33)).cell? ⟨(V + 1), 1, none⟩ = some (.int .i64 (d : Int)) := hrow1.cell rfl
  have p2 : ((w.alloc (.cells #[.int .i64 0, .int .i64 0, .slice none 0 0, .slice none 0 0] 33)).alloc (.cells #[.int .i64 1, .int .i64 (d : Int), .slice none 0 0, .slice none 0 0] 33)).cell? ⟨(V + 1), 2, none⟩ = some (.slice none 0 0) := hrow1.cell rfl
  have p3 : ((w.alloc (.cells #[.int .i64 0, .int .i64 0, .slice none 0 0, .slice none 0 0] 33)).alloc (.cells #[.int .i64 1, .int .i64 (d : Int), .slice none 0 0, .slice none 0 0] 33)).cell? ⟨(V + 1), 3, none⟩ = some (.slice none 0 0) := hrow1.cell rfl
  have pf := hrow1.frozen
  have z0 : ((w.alloc (.cells #[.int .i64 0, .int .i64 0, .slice none 0 0, .slice none 0 0] 33)).alloc (.cells #[.int .i64 1, .int .i64 (d : Int), .slice none 0 0, .slice none 0 0] 33)).cell? ⟨V, 0, none⟩ = some (.int .i64 0) := HROW0.out.cell rfl
  have z1 : ((w.alloc (.cells #[.int .i64 0, .int .i64 0, .slice none 0 0, .slice none 0 0] 33)).alloc (.cells #[.int .i64 1, .int .i64 (d : Int), .slice none 0 0, .slice none 0 0] 33)).cell? ⟨V, 1, none⟩ = some (.int .i64 0) := HROW0.out.cell rfl
  have z2 : ((w.alloc (.cells #[.int .i64 0, .int .i64 0, .slice none 0 0, .slice none 0 0] 33)).alloc (.cells #[.int .i64 1, .int .i64 (d : Int), .slice none 0 0, .slice none 0 0] 33)).cell? ⟨V, 2, none⟩ = some (.slice none 0 0) := HROW0.out.cell rfl
  have z3 : ((w.alloc (.cells #[.int .i64 0, .int .i64 0, .slice none 0 0, .slice none 0 0] 33)).alloc (.cells #[.int .i64 1, .int .i64 (d : Int), .slice none 0 0, .slice none 0 0] 33)).cell? ⟨V, 3, none⟩ = some (.slice none 0 0) := HROW0.out.cell rfl
  have zf := HROW0.out.frozen
  clear hrow1
  go_enter Tryz.func42, Tryz.ntmps42
  go_upto_region 2 with (fail)
  generalize (w.alloc (.cells #[.int .i64 0, .int .i64 0, .slice none 0 0, .slice none 0 0] 33)).alloc (.cells #[.int .i64 1, .int .i64 (d : Int), .slice none 0 0, .slice none 0 0] 33) = W at *
  have hword := word_any HR.out hrg EMP
  go_wp2_with fail
  go_at_call 40
  refine hword.mono ?_
  rintro e w1 (⟨hne, rfl, rfl⟩ | ⟨ts', o2, m2, c2, vv, hts, _, rfl, rfl, hrd2⟩)
  · have htk := take_join HR.out hrg (k := 40) (by decide)
    have HNE := Lib.hid hne
    clear hword hne
    go_wp2_with fail
    go_at_call 38
    refine htk.mono ?_
    rintro e w2 ⟨sl, ts1, b1, o1, m1, c1, rfl, hm1, hrd1, hsu1, hre1⟩
    have hW := HSZ.out
    have hsz1 : V + 2 ≤ w2.heap.size := by have := hm1.size; omega
    have HROW1 : Hid (Row w2 (V + 1) #[.int .i64 1, .int .i64 (d : Int), .slice none 0 0, .slice none 0 0] 33) := Lib.hid ((hm1.block (V + 1) (by omega) (by omega)).trans HROW1.out)
    have HROW0 : Hid (Row w2 V #[.int .i64 0, .int .i64 0, .slice none 0 0, .slice none 0 0] 33) := Lib.hid ((hm1.block V (by omega) (by omega)).trans HROW0.out)
    have HT := Lib.hid (HC0.out.mono (base := lo) (Nat.le_refl lo) (mod_below hm1 hlo (by omega)) HT.out)
    have HM := Lib.hid (HM.out.trans hm1 (fun _ _ h => h))
    have HR := Lib.hid hrd1
    have HSU := Lib.hid hsu1
    have HRE := Lib.hid hre1
    have HGD1 : Hid (∀ t ∈ ts1, Good t) := Lib.hid (by obtain ⟨u, rfl⟩ := hsu1; exact fun t ht => HGD.out t (List.mem_append_right _ ht))
    have HLN1 : Hid (∀ t ∈ ts1, t.2.length ≤ 2000) := Lib.hid (by obtain ⟨u, rfl⟩ := hsu1; exact fun t ht => HLN.out t (List.mem_append_right _ ht))
    clear p0 p1 p2 p3 pf z0 z1 z2 z3 zf hm1 hrd1 hsu1 hre1 hW htk HSZ
    have p0 : w2.cell? ⟨(V + 1), 0, none⟩ = some (.int .i64 1) := HROW1.out.cell rfl
    have p1 : w2.cell? ⟨(V + 1), 1, none⟩ = some (.int .i64 (d : Int)) := HROW1.out.cell rfl
    have p2 : w2.cell? ⟨(V + 1), 2, none⟩ = some (.slice none 0 0) := HROW1.out.cell rfl
    have p3 : w2.cell? ⟨(V + 1), 3, none⟩ = some (.slice none 0 0) := HROW1.out.cell rfl
    have pf := HROW1.out.frozen
    have z0 : w2.cell? ⟨V, 0, none⟩ = some (.int .i64 0) := HROW0.out.cell rfl
    have z1 : w2.cell? ⟨V, 1, none⟩ = some (.int .i64 0) := HROW0.out.cell rfl
    have z2 : w2.cell? ⟨V, 2, none⟩ = some (.slice none 0 0) := HROW0.out.cell rfl
    have z3 : w2.cell? ⟨V, 3, none⟩ = some (.slice none 0 0) := HROW0.out.cell rfl
    have zf := HROW0.out.frozen
    have hpl : ∀ k, Calls Tryz.prog 52 #[.pointer (some ⟨r, 0, none⟩), .int .i64 (d : Nat)] (w2.drewN k) (PlacePost lo T PF (wid d) r g all ts1 b1 (w2.drewN k)) := fun k => place_any HC0.out hd (HC0.out.mono (w := w2) (base := lo) (Nat.le_refl lo) ⟨rfl, rfl, rfl, Nat.le_refl _, fun _ _ => rfl⟩ HT.out) (HR.out.drewN k) hrg (by show g < w2.heap.size; omega) hlo HGD1.out HLN1.out
    have hleaf := leaf1_any w2
    go_upto_region 6 with (fail)
    refine wp_loop_rounds 1 ?_
    rw [rounds_succ]
    go_upto_region 7 with (go_at_call 34; refine hleaf.mono ?_; rintro _ wq ⟨rfl, hwq⟩; rw [hwq]; clear hwq)
    have hwd : 0 < wid d ∧ wid d ≤ 4 := by unfold wid; split <;> split <;> omega
    go_region_law
      (first
        | (refine step_append_lies _ rfl (.tmp 30) (.tmp 33) 30 rfl V 38 _ _ 1 8 Tryz.underlying30 rfl rfl rfl rfl rfl (by decide) (.slice none 0 0) 0 [] rfl (own_alloc_nil _ _) ⟨g5, 0, none⟩ _ _ (xs.map fl) rfl (by rw [List.length_map, HPL.out.xl, Nat.mul_one]) (HPL.out.own.cells rfl) (fl_one xs) hwd.1 (by unfold maxLen; omega) (by omega) (by omega) _ rfl ?_; intro g6 cap6 w6 hown6 hg6 hat6 hlt6; have hqr6 : Row w6 (V + 1) #[.int .i64 1, .int .i64 (d : Int), .slice none 0 0, .slice none 0 0] 33 := (hg6.block (V + 1) (lt_of_row HQR.out) (by intro e; cases e)).trans HQR.out; have r2 : w6.cell? ⟨V + 1, 2, none⟩ = some (.slice none 0 0) := hqr6.cell (j := 2) rfl; have rf := hqr6.frozen; have HQR6 := Lib.hid hqr6; clear hqr6)
        | (go_simp; go_at_call 52; refine (hpl _).mono ?_; rintro e w5 ⟨v5, xs, tsi, badi, o5, m5, c5, rfl, hPL⟩; obtain ⟨g5, cap5, rfl, _, _⟩ := hPL.own.form hwd.1; have hq := hPL.mod.block (V + 1) (show V + 1 < w2.heap.size by omega) (by omega); have hqr : Row w5 (V + 1) #[.int .i64 1, .int .i64 (d : Int), .slice none 0 0, .slice none 0 0] 33 := hq.trans HROW1.out; have q2 : w5.cell? ⟨V + 1, 2, none⟩ = some (.slice none 0 0) := hqr.cell (j := 2) rfl; have qf := hqr.frozen; have HQR := Lib.hid hqr; have hsz5 : V + 2 ≤ w5.heap.size := (have h : w2.heap.size ≤ w5.heap.size := hPL.mod.size; by omega); have HPL := Lib.hid hPL; clear hq hPL hqr))
    all_goals
      have hBS := BS.mk7 HC0.out (d := d) hV HM.out hsz1 HPL.out hr0 hg0 hlo HROW0.out HQR6.out hown6 hg6 hat6
      have HRX := Lib.hid HPL.out.res
      have HXL := Lib.hid HPL.out.xl
      have HBS := Lib.hid hBS
      clear hBS hown6 hg6 hat6 HQR6 HQR HPL hpl r2 rf q2 qf p0 p1 p2 p3 pf z0 z1 z2 z3 zf hleaf HGD1 HLN1 HROW0 HROW1 HT HM HR HSU
      generalize w6.setCell ⟨V + 1, 2, none⟩ (.slice (some ⟨g6, 0, none⟩) (wid d) cap6) = W6 at *
      have htk2 := take_join HBS.out.rd hrg (k := 41) (by decide)
      have hleaf := trivial
      go_wp2_with fail
      go_at_call 38
      refine htk2.mono ?_
      rintro e w7 ⟨sl2, ts3, b3, o3, m3, c3, rfl, hm3, hrd3, hsu3, hre3⟩
      have HB7 := Lib.hid (HBS.out.keep HC0.out hm3 hrd3 hlo hr0)
      have HBR := Lib.hid (body_res (fun ⟨u, hu, _⟩ => HNE.out ⟨u, hu, trivial⟩) (HRE.out.imp (fun h => ⟨rfl, h.2⟩) id) HRX.out hre3)
      clear hm3 hrd3 hsu3 hre3 htk2
      have p0 : w7.cell? ⟨(V + 1), 0, none⟩ = some (.int .i64 1) := HB7.out.row1.cell rfl
      have p1 : w7.cell? ⟨(V + 1), 1, none⟩ = some (.int .i64 (d : Int)) := HB7.out.row1.cell rfl
      have p2 : w7.cell? ⟨(V + 1), 2, none⟩ = some (.slice (some ⟨g6, 0, none⟩) (wid d) cap6) := HB7.out.row1.cell rfl
      have p3 : w7.cell? ⟨(V + 1), 3, none⟩ = some (.slice none 0 0) := HB7.out.row1.cell rfl
      have pf := HB7.out.row1.frozen
      have z0 : w7.cell? ⟨V, 0, none⟩ = some (.int .i64 0) := HB7.out.row0.cell rfl
      have z1 : w7.cell? ⟨V, 1, none⟩ = some (.int .i64 0) := HB7.out.row0.cell rfl
      have z2 : w7.cell? ⟨V, 2, none⟩ = some (.slice none 0 0) := HB7.out.row0.cell rfl
      have z3 : w7.cell? ⟨V, 3, none⟩ = some (.slice none 0 0) := HB7.out.row0.cell rfl
      have zf := HB7.out.row0.frozen
      go_wp2_with fail
      have hend : Row _ V _ 33 := ((((HB7.out.row0.set 0 (.int .i64 1)).set 1 (.int .i64 (d : Int))).set 2 (.slice (some ⟨g6, 0, none⟩) (wid d) cap6)).set 3 (.slice none 0 0))
      refine bodyPost_ret (results_c rfl _ _ V 33 _ (0, 0) rfl hend Tryz.underlying33 info33) rfl ?_
      obtain ⟨hA, hB, hC, hD⟩ := HB7.out.fin HC0.out hV ((((((Mod.refl (· = V) w7).set1 _).set1 _).set1 _).set1 _)) hlo hr0 hg0
      exact ⟨hA, hB, _, xs, ts3, b3, _, _, _, rfl, hC, .inr HXL.out, hD, HBR.out⟩
  · have HB := Lib.hid (BS.mk (d := d) (v := .slice none 0 0) (xs := []) HM.out HT.out (by have := HSZ.out; omega) (own_alloc_nil _ _) HR.out HROW0.out HROW1.out)
    have HB7 := Lib.hid (HB.out.keep HC0.out ((Mod.refl (· = r) W).set1 (j := 0) vv) hrd2 hlo hr0)
    have HTS := Lib.hid hts
    clear hword hrd2 hts p0 p1 p2 p3 pf z0 z1 z2 z3 zf HB HR HT HM HSZ HROW0 HROW1
    generalize W.setCell ⟨r, 0, none⟩ vv = w7 at *
    have p0 : w7.cell? ⟨(V + 1), 0, none⟩ = some (.int .i64 1) := HB7.out.row1.cell rfl
    have p1 : w7.cell? ⟨(V + 1), 1, none⟩ = some (.int .i64 (d : Int)) := HB7.out.row1.cell rfl
    have p2 : w7.cell? ⟨(V + 1), 2, none⟩ = some (.slice none 0 0) := HB7.out.row1.cell rfl
    have p3 : w7.cell? ⟨(V + 1), 3, none⟩ = some (.slice none 0 0) := HB7.out.row1.cell rfl
    have pf := HB7.out.row1.frozen
    have z0 : w7.cell? ⟨V, 0, none⟩ = some (.int .i64 0) := HB7.out.row0.cell rfl
    have z1 : w7.cell? ⟨V, 1, none⟩ = some (.int .i64 0) := HB7.out.row0.cell rfl
    have z2 : w7.cell? ⟨V, 2, none⟩ = some (.slice none 0 0) := HB7.out.row0.cell rfl
    have z3 : w7.cell? ⟨V, 3, none⟩ = some (.slice none 0 0) := HB7.out.row0.cell rfl
    have zf := HB7.out.row0.frozen
    go_wp2_with fail
    have hend : Row _ V _ 33 := ((((HB7.out.row0.set 0 (.int .i64 1)).set 1 (.int .i64 (d : Int))).set 2 (.slice none 0 0)).set 3 (.slice none 0 0))
    refine bodyPost_ret (results_c rfl _ _ V 33 _ (0, 0) rfl hend Tryz.underlying33 info33) rfl ?_
    obtain ⟨hA, hB, hC, hD⟩ := HB7.out.fin HC0.out hV ((((((Mod.refl (· = V) w7).set1 _).set1 _).set1 _).set1 _)) hlo hr0 hg0
    refine ⟨hA, hB, _, [], ts', false, _, _, _, rfl, hC, .inl ⟨rfl, rfl⟩, hD, .inl ⟨rfl, none, ?_, rfl⟩⟩
    rw [HTS.out, bodyS, if_pos ⟨rfl, rfl⟩]
end Go.Proofs.YtadpeebcombjnaaGreatDoor
namespace Go.Proofs.YtadpeebcombjnaaGreatDoor
open Go Go.Proofs Go.RowKit Go.Lib
set_option maxRecDepth 100000
def POINT : List UInt8 := [80, 79, 73, 78, 84]
def knameL : Nat → List UInt8
  | 1 => POINT
  | 2 => [76, 73, 78, 69, 83, 84, 82, 73, 78, 71]
  | 3 => [80, 79, 76, 89, 71, 79, 78]
  | 4 => [77, 85, 76, 84, 73, 80, 79, 73, 78, 84]
  | 5 => [77, 85, 76, 84, 73, 76, 73, 78, 69, 83, 84, 82, 73, 78, 71]
  | 6 => [77, 85, 76, 84, 73, 80, 79, 76, 89, 71, 79, 78]
  | _ => [71, 69, 79, 77, 69, 84, 82, 89, 67, 79, 76, 76, 69, 67, 84, 73, 79, 78]
theorem kname_any (k : Nat) (hk : k < 7) (w : World) : Calls Tryz.prog 39 #[.int .i64 (k : Nat)] w fun e w' => e = .returned (.string ⟨(knameL k).toArray⟩) ∧ w' = w := by
  obtain rfl | rfl | rfl | rfl | rfl | rfl | rfl : k = 0 ∨ k = 1 ∨ k = 2 ∨ k = 3 ∨ k = 4 ∨ k = 5 ∨ k = 6 := by omega
  all_goals
    go_enter Tryz.func39, Tryz.ntmps39
    go_wp2
    go_ret
    exact ⟨rfl, rfl⟩
def dnameL : Nat → List UInt8
  | 1 => [90]
  | 2 => [77]
  | 3 => [90, 77]
  | _ => []
theorem dname_any (k : Nat) (hk : k < 4) (w : World) : Calls Tryz.prog 41 #[.int .i64 (k : Nat)] w fun e w' => e = .returned (.string ⟨(dnameL k).toArray⟩) ∧ w' = w := by
  obtain rfl | rfl | rfl | rfl : k = 0 ∨ k = 1 ∨ k = 2 ∨ k = 3 := by omega
  all_goals
    go_enter Tryz.func41, Tryz.ntmps41
    go_wp2
    go_ret
    exact ⟨rfl, rfl⟩
theorem kname_ne (k : Nat) (hk : k < 7) (h : k ≠ 1) : (knameL k == POINT) = false := by
  obtain rfl | rfl | rfl | rfl | rfl | rfl : k = 0 ∨ k = 2 ∨ k = 3 ∨ k = 4 ∨ k = 5 ∨ k = 6 := by omega
  all_goals decide
theorem dname_ne {i d : Nat} (hi : 1 ≤ i) (hi4 : i < 4) (hd : d < 4) (h : dnameL i = dnameL d) : i = d := by
  obtain rfl | rfl | rfl : i = 1 ∨ i = 2 ∨ i = 3 := by omega
  all_goals (obtain rfl | rfl | rfl | rfl : d = 0 ∨ d = 1 ∨ d = 2 ∨ d = 3 := by omega) <;> first | rfl | exact absurd h (by decide)
/-- The tokens of a tag. -/
def tgT (d : Nat) : List Tok := if d = 0 then [] else [(97, dnameL d)]
theorem tgT_pos {d : Nat} (h : d ≠ 0) : tgT d = [(97, dnameL d)] := if_neg h
/-- Where the reader stands behind i - 1 tags that were tried. -/
structure TG (d : Nat) (B : List Tok) (i y : Nat) (tsr : List Tok) : Prop where
  y' : y = if d < i then d else 0
  t' : tsr = if d < i then B else tgT d ++ B
theorem TG.miss {d : Nat} {B : List Tok} {i y : Nat} {tsr : List Tok} (h : TG d B i y tsr) (hi : 1 ≤ i) (hm : y ≠ 0 ∨ ¬ ∃ u, tsr = (97, dnameL i) :: u) : TG d B (i + 1) y tsr := by
  obtain ⟨h1, h2⟩ := h
  by_cases hdi : d < i
  · rw [if_pos hdi] at h1 h2
    exact ⟨by rw [if_pos (by omega)]; exact h1, by rw [if_pos (by omega)]; exact h2⟩
  · rw [if_neg hdi] at h1 h2
    have hne : d ≠ i := by
      rintro rfl
      rcases hm with hm | hm
      · exact hm h1
      · exact hm ⟨B, by rw [h2, tgT_pos (by omega)]; rfl⟩
    exact ⟨by rw [if_neg (by omega)]; exact h1, by rw [if_neg (by omega)]; exact h2⟩
theorem TG.hit {d : Nat} {B : List Tok} {i y : Nat} {tsr u : List Tok} (h : TG d B i y tsr) (hd : d < 4) (hi : 1 ≤ i) (hi4 : i < 4) (hB : ∀ i u, 1 ≤ i → i < 4 → B ≠ (97, dnameL i) :: u) (hu : tsr = (97, dnameL i) :: u) : TG d B (i + 1) i u := by
  obtain ⟨h1, h2⟩ := h
  by_cases hdi : d < i
  · rw [if_pos hdi] at h2
    exact absurd (h2.symm.trans hu) (hB i u hi hi4)
  · rw [if_neg hdi, hu, tgT_pos (by omega)] at h2
    injection h2 with h3 h4
    injection h3 with _ h3
    have := dname_ne hi hi4 hd h3
    subst this
    exact ⟨by rw [if_pos (by omega)], by rw [if_pos (by omega)]; exact h4⟩
set_option maxHeartbeats 8000000 in
theorem tagged_any {lo : Nat} {T : World → Prop} {PF : List UInt8 → Option Nat} (C0 : PFC lo T PF) {w : World} {r g o m c d : Nat} {all B : List Tok} (hd : d < 4) (hT : T w) (h : RD w r all ((97, POINT) :: (tgT d ++ B)) false g o m c) (hrg : r ≠ g) (hg0 : g < w.heap.size) (hlo : lo ≤ r) (hgood : ∀ t ∈ B, Good t) (hlen : ∀ t ∈ B, t.2.length ≤ 2000)
    (hB : ∀ i u, 1 ≤ i → i < 4 → B ≠ (97, dnameL i) :: u) :
    Calls Tryz.prog 21 #[.pointer (some ⟨r, 0, none⟩)] w (BodyPost T PF d r g all B w) := by
  have hr0 : r < w.heap.size := lt_of_row h.row
  obtain ⟨V, hV⟩ : ∃ V, w.heap.size = V := ⟨_, rfl⟩
  rw [hV] at hr0 hg0
  have hrow0 : Row (w.alloc (.cells #[.int .i64 0, .int .i64 0, .slice none 0 0, .slice none 0 0] 33)) V #[.int .i64 0, .int .i64 0, .slice none 0 0, .slice none 0 0] 33 := by rw [← hV]; exact Row.new w _ 33
  have hmod : Mod (· = r) w (w.alloc (.cells #[.int .i64 0, .int .i64 0, .slice none 0 0, .slice none 0 0] 33)) := (Mod.refl _ w).alloc _
  have hsz : (w.alloc (.cells #[.int .i64 0, .int .i64 0, .slice none 0 0, .slice none 0 0] 33)).heap.size = V + 1 := by simp [hV]
  have hk : ∀ k, k < V → (w.alloc (.cells #[.int .i64 0, .int .i64 0, .slice none 0 0, .slice none 0 0] 33)).heap[k]? = w.heap[k]? := fun k hk => Below.heap_alloc w _ k (by omega)
  have hrd := h.keep (hk r hr0) (hk g hg0)
  have hT1 := C0.mono (base := lo) (Nat.le_refl lo) ⟨hmod.os, hmod.tape, hmod.output, hmod.size, fun k hk2 => hk k (by omega)⟩ hT
  have HROW0 := Lib.hid hrow0
  have HM := Lib.hid hmod
  have HSZ := Lib.hid hsz
  have HR := Lib.hid hrd
  have HT := Lib.hid hT1
  have HGD := Lib.hid hgood
  have HLN := Lib.hid hlen
  have HC0 := Lib.hid C0
  have HB := Lib.hid hB
  clear hrow0 hmod hsz hk hrd hT1 hgood hlen h hT C0 hB
  go_enter Tryz.func21, Tryz.ntmps21
  go_upto_region 1 with (fail)
  generalize w.alloc (.cells #[.int .i64 0, .int .i64 0, .slice none 0 0, .slice none 0 0] 33) = W at *
  have htk := take_any HR.out hrg 97 (by decide)
  go_wp2_with fail
  go_at_call 38
  refine htk.mono ?_
  rintro e w2 (⟨hk, rfl, rfl⟩ | ⟨hk, t, ts', o1, m1, c1, vv, hts, _, rfl, rfl, hrd1⟩)
  · exact absurd rfl hk
  injection hts with h1 h2
  subst h1 h2
  have hm1 := (Mod.refl (· = r) W).set1 (j := 0) vv
  have HM1 := Lib.hid (HM.out.trans hm1 (fun _ _ h => h))
  have HR1 := Lib.hid hrd1
  have HT1 := Lib.hid (HC0.out.mono (base := lo) (Nat.le_refl lo) (mod_below hm1 hlo (by have := HSZ.out; omega)) HT.out)
  have HSZ1 : Hid (V + 1 ≤ (W.setCell ⟨r, 0, none⟩ vv).heap.size) := Lib.hid (by have := HSZ.out; have := hm1.size; omega)
  have HROW1 : Hid (Row (W.setCell ⟨r, 0, none⟩ vv) V #[.int .i64 0, .int .i64 0, .slice none 0 0, .slice none 0 0] 33) := Lib.hid (HROW0.out.keep hm1 (by omega))
  clear HR HM HT HSZ HROW0 htk hrd1 hm1 hk
  generalize W.setCell ⟨r, 0, none⟩ vv = w2 at *
  have hup := upper_any ⟨POINT.toArray⟩ w2 (by decide)
  go_wp2_with fail
  go_at_call 30
  refine hup.mono ?_
  rintro e w3 ⟨hb, rfl⟩
  have hu : ((By ⟨POINT.toArray⟩).map upB) = POINT := by decide
  rw [hu]
  clear hu hup
  have hs2 := HSZ1.out
  have hm3 : Mod (· = r) w2 w3 := Mod.of_below hb _
  have HM := Lib.hid (HM1.out.trans hm3 (fun _ _ h => h))
  have HR := Lib.hid (HR1.out.keep (hb.block r (by omega)) (hb.block g (by omega)))
  have HT := Lib.hid (HC0.out.mono (base := lo) (Nat.le_refl lo) (mod_below hm3 hlo (by omega)) HT1.out)
  have HSZ : Hid (V + 1 ≤ w3.heap.size) := Lib.hid (by have := hm3.size; omega)
  have HROW0 := Lib.hid (HROW1.out.keep hm3 (by omega))
  clear HR1 HM1 HT1 HSZ1 HROW1 hb hm3 hs2
  go_wp2_with fail
  go_loopg [4, 5, 11] 7 (fun gh kd kk k wr => ∃ (i : Nat) (z : Int), i + gh = 7 ∧ k = .int .i64 i ∧ kd = .int .i64 z ∧ Hid (2 ≤ i → z = 1) ∧ wr = w3)
  case atStart => exact ⟨0, -1, by omega, rfl, rfl, Lib.hid (fun h => by omega), rfl⟩
  case round =>
    obtain ⟨i, z, hi, rfl, rfl, HZ, rfl⟩ := hrel
    by_cases hlt : i < 7
    · have hkn := kname_any i hlt wr
      by_cases h1 : i = 1
      · subst h1
        go_wp2_with (go_at_call 39; refine hkn.mono ?_; rintro _ wq ⟨rfl, hwq⟩; rw [hwq]; clear hwq)
        go_roundg 5
        case measure => omega
        case rel => exact ⟨2, 1, by omega, by go_num, rfl, Lib.hid (fun _ => rfl), rfl⟩
      · have hne := kname_ne i hlt h1
        have HI := Lib.hid h1
        clear h1
        go_wp2_with (go_at_call 39; refine hkn.mono ?_; rintro _ wq ⟨rfl, hwq⟩; rw [hwq]; clear hwq)
        go_roundg (7 - (i + 1))
        case measure => omega
        case rel => exact ⟨i + 1, z, by omega, by go_num, rfl, Lib.hid (fun h => HZ.out (by have := HI.out; omega)), rfl⟩
    · obtain rfl : i = 7 := by omega
      obtain rfl := HZ.out (by decide)
      clear hlt hi HZ
      go_wp2_with fail
      go_loopg [6, 7] 3 (fun gh dm dd w4 => ∃ (i y : Nat) (tsr : List Tok) (o m c : Nat), i + gh = 4 ∧ 1 ≤ i ∧ dd = .int .i64 i ∧ dm = .int .i64 y ∧ Hid (TG d B i y tsr) ∧ Hid (Mod (· = r) w w4) ∧ Hid (RD w4 r all tsr false g o m c) ∧ Hid (T w4) ∧ Hid (V + 1 ≤ w4.heap.size) ∧ Hid (Row w4 V #[.int .i64 0, .int .i64 0, .slice none 0 0, .slice none 0 0] 33))
      case atStart => exact ⟨1, 0, tgT d ++ B, _, _, _, by omega, Nat.le_refl _, rfl, rfl, Lib.hid ⟨by split <;> omega, by split; (obtain rfl : d = 0 := by omega); rfl; rfl⟩, HM, HR, HT, HSZ, HROW0⟩
      case round =>
        clear HM HR HT HSZ HROW0
        obtain ⟨i, y, tsr, o5, m5, c5, hi, hi1, rfl, rfl, HTG, HM, HR, HT, HSZ, HROW0⟩ := hrel
        by_cases hlt : i < 4
        · by_cases hy : y = 0
          · subst hy
            have hdn := dname_any i hlt wr
            have hwd := word_any HR.out hrg (dnameL i)
            go_wp2_with (go_at_call 41; refine hdn.mono ?_; rintro _ wq ⟨rfl, hwq⟩; rw [hwq]; clear hwq)
            go_at_call 40
            refine hwd.mono ?_
            rintro e w5 (⟨hne, rfl, rfl⟩ | ⟨ts', o2, m2, c2, vv, hts, _, rfl, rfl, hrd2⟩)
            · have HNE := Lib.hid hne
              clear hne hwd hdn
              go_wp2_with fail
              go_roundg (4 - (i + 1))
              case measure => omega
              case rel => exact ⟨i + 1, 0, tsr, _, _, _, by omega, by omega, by go_num, rfl, Lib.hid (HTG.out.miss hi1 (.inr fun ⟨u, hu⟩ => HNE.out ⟨u, hu, trivial⟩)), HM, HR, HT, HSZ, HROW0⟩
            · have HTG2 := Lib.hid (HTG.out.hit hd hi1 hlt HB.out hts)
              have hm1 := (Mod.refl (· = r) wr).set1 (j := 0) vv
              have HM1 := Lib.hid (HM.out.trans hm1 (fun _ _ h => h))
              have HR1 := Lib.hid hrd2
              have HT1 := Lib.hid (HC0.out.mono (base := lo) (Nat.le_refl lo) (mod_below hm1 hlo (by have := HSZ.out; omega)) HT.out)
              have HSZ1 : Hid (V + 1 ≤ (wr.setCell ⟨r, 0, none⟩ vv).heap.size) := Lib.hid (by have := HSZ.out; have := hm1.size; omega)
              have HROW1 : Hid (Row (wr.setCell ⟨r, 0, none⟩ vv) V #[.int .i64 0, .int .i64 0, .slice none 0 0, .slice none 0 0] 33) := Lib.hid (HROW0.out.keep hm1 (by omega))
              clear HR HM HT HSZ HROW0 hrd2 hm1 hts hwd hdn HTG
              generalize wr.setCell ⟨r, 0, none⟩ vv = w5 at *
              go_wp2_with fail
              go_roundg (4 - (i + 1))
              case measure => omega
              case rel => exact ⟨i + 1, i, ts', _, _, _, by omega, by omega, by go_num, rfl, HTG2, HM1, HR1, HT1, HSZ1, HROW1⟩
          · have HY := Lib.hid hy
            have hy0 : ((y : Int) == 0) = false := by rw [beq_eq_false_iff_ne]; omega
            clear hy
            go_wp2_with fail
            go_roundg (4 - (i + 1))
            case measure => omega
            case rel => exact ⟨i + 1, y, tsr, _, _, _, by omega, by omega, by go_num, rfl, Lib.hid (HTG.out.miss hi1 (.inl HY.out)), HM, HR, HT, HSZ, HROW0⟩
        · obtain rfl : i = 4 := by omega
          have h1 := HTG.out.y'
          have h2 := HTG.out.t'
          rw [if_pos hd] at h1 h2
          have h1 := h1.symm
          subst h1 h2
          have hbody := body_any HC0.out hd HT.out HR.out hrg (by have := HSZ.out; omega) hlo HGD.out HLN.out
          clear HTG hlt hi
          go_wp2_with fail
          go_at_call 42
          refine hbody.mono ?_
          rintro e w6 ⟨hm, hT6, v, xs, ts', bad', o6, m6, c6, rfl, hown, hxl, hrd6, hres⟩
          obtain ⟨aa, ll, cc, rfl⟩ := own_slice hown
          have HROW6 : Hid (Row w6 V #[.int .i64 0, .int .i64 0, .slice none 0 0, .slice none 0 0] 33) := Lib.hid (HROW0.out.keep hm (by omega))
          have hend : Row _ V _ 33 := ((((HROW6.out.set 0 (.int .i64 1)).set 1 (.int .i64 (d : Int))).set 2 (.slice aa ll cc)).set 3 (.slice none 0 0))
          have HM6 := Lib.hid (HM.out.trans hm (fun _ _ h => h))
          have HOW := Lib.hid hown
          have HXL := Lib.hid hxl
          have HR6 := Lib.hid hrd6
          have HRS := Lib.hid hres
          have HT6 := Lib.hid hT6
          have HS6 : Hid (V + 1 ≤ w6.heap.size) := Lib.hid (by have := HSZ.out; have := hm.size; omega)
          have hV4 := Lib.hid HSZ.out
          clear hown hxl hrd6 hres hT6 hbody hm HM HR HT HSZ HROW0
          have z0 : w6.cell? ⟨V, 0, none⟩ = some (.int .i64 0) := HROW6.out.cell rfl
          have z1 : w6.cell? ⟨V, 1, none⟩ = some (.int .i64 0) := HROW6.out.cell rfl
          have z2 : w6.cell? ⟨V, 2, none⟩ = some (.slice none 0 0) := HROW6.out.cell rfl
          have z3 : w6.cell? ⟨V, 3, none⟩ = some (.slice none 0 0) := HROW6.out.cell rfl
          have zf := HROW6.out.frozen
          go_wp2_with fail
          refine bodyPost_ret (results_c rfl _ _ V 33 _ (0, 0) rfl hend Tryz.underlying33 info33) rfl ?_
          have hW : Mod (· = V) w6 _ := (((((Mod.refl (· = V) w6).set1 (j := 0) (.int .i64 1)).set1 (j := 1) (.int .i64 (d : Int))).set1 (j := 2) (.slice aa ll cc)).set1 (j := 3) (.slice none 0 0))
          have hs6 := HS6.out
          refine ⟨HM6.out.trans hW (fun k hk e => by omega), HC0.out.mono (Nat.le_refl lo) (hW.below_of (by omega) (fun k hk e => by omega)) HT6.out, _, xs, ts', bad', _, _, _, rfl, ?_, HXL.out, HR6.out.keep (hW.block r (by omega) (by omega)) (hW.block g (by omega) (by omega)), HRS.out⟩
          rw [hV]
          exact own_far_cells (own_base HOW.out (by have := hV4.out; omega)) HROW6.out (by decide) (fun k hk => by rw [heap_setCell_other _ _ _ _ hk, heap_setCell_other _ _ _ _ hk, heap_setCell_other _ _ _ _ hk, heap_setCell_other _ _ _ _ hk])
end Go.Proofs.YtadpeebcombjnaaGreatDoor
