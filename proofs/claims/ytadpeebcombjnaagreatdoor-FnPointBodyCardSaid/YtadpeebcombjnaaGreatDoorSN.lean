/- The law's pRead and FnPointBody. -/
import Derived.Test.YtadpeebcombjnaaGreatDoorSM
namespace Go.Proofs.YtadpeebcombjnaaGreatDoor
open Go Go.Proofs Go.RowKit Go.Lib
set_option maxRecDepth 100000
theorem numsP_len {PF : List UInt8 → Option Nat} : ∀ (n : Nat) (ts : List Tok) (p : List Nat × List Tok), numsP PF n ts = some p → p.1.length = n := by
  intro n
  induction n with
  | zero => intro ts p h; injection h with h; rw [← h]; rfl
  | succ n ih =>
    intro ts p h
    rw [numsP] at h
    obtain ⟨q, _, h2⟩ := Option.bind_eq_some_iff.1 h
    obtain ⟨z, h3, h4⟩ := Option.map_eq_some_iff.1 h2
    rw [← h4, List.length_cons, ih _ _ h3]
theorem prog_len {PF : List UInt8 → Option Nat} {n : Nat} {ts : List Tok} {o : Option (List Nat)} (h : progRead PF n ts = some o) : (o.getD []).length ≤ n := by
  cases ts with
  | nil => cases h
  | cons t ts =>
    rw [progRead] at h
    split at h
    · injection h with h; subst h; exact Nat.zero_le _
    · split at h
      · obtain ⟨p, h1, h2⟩ := Option.bind_eq_some_iff.1 h
        have := numsP_len _ _ _ h1
        split at h2
        · split at h2
          · injection h2 with h2; subst h2; exact Nat.le_of_eq this
          · cases h2
        · cases h2
      · cases h
theorem body_head {ts B : List Tok} (h : bodyF 0 false ts = some B) : ∀ i u, 1 ≤ i → i < 4 → B ≠ (97, dnameL i) :: u := by
  rintro i u h1 h4 rfl
  obtain ⟨r, hr⟩ := body_prefix _ _ _ _ h
  rw [hr, List.cons_append, bodyF] at h
  have hd : dep (dnameL i) = 0 ∧ dnameL i ≠ EMP := by
    obtain rfl | rfl | rfl : i = 1 ∨ i = 2 ∨ i = 3 := by omega
    all_goals exact ⟨by decide, by decide⟩
  rw [show dep ((97, dnameL i) : Tok).2 = 0 from hd.1, if_pos (by decide), if_neg (by rintro (e | e); cases e; exact hd.2 e)] at h
  cases h
theorem wkt_cat (d : Nat) (B : List Tok) : ((⟨#[80, 79, 73, 78, 84]⟩ : ByteArray) ++ ⟨(tagL d).toArray⟩ ++ ⟨#[32]⟩ ++ ⟨(spaced B).toArray⟩) = ⟨(wktL d B).toArray⟩ := by
  have e1 : (⟨#[80, 79, 73, 78, 84]⟩ : ByteArray) = ⟨POINT.toArray⟩ := rfl
  have e2 : (⟨#[32]⟩ : ByteArray) = ⟨[32].toArray⟩ := rfl
  rw [e1, e2, ba_app, ba_app, ba_app]
  unfold wktL
  rw [List.append_assoc, List.append_assoc]
  rfl
set_option maxHeartbeats 8000000 in
theorem pRead_any {lo : Nat} {T : World → Prop} {PF : List UInt8 → Option Nat} (C0 : PFC lo T PF) (HN : NumLaw PF) {s : ByteArray} {w : World} {dm : Int} (hT : T w) (hlo : lo ≤ w.heap.size) (hgl : Gl w) (hx : ∃ x, w.cell? ⟨1, 0, none⟩ = some (.string x)) (hs : (s.size : Int) ≤ 9223372036854775807) :
    Calls Tryz.prog 4 #[.int .i64 1, .string s, .int .i64 dm, .func (.func 5) #[] #[]] w fun e w' => e = .returned (.bool true) ∧ Below w.heap.size w w' := by
  have hpt := ptoks_any s w hs
  have HT := Lib.hid hT
  have HC0 := Lib.hid C0
  have HNL := Lib.hid HN
  have HGL := Lib.hid hgl
  have HX := Lib.hid hx
  clear hT C0 HN hgl hx
  go_enter Tryz.func4, Tryz.ntmps4
  go_wp2_with fail
  go_at_call 6
  refine hpt.mono ?_
  rintro e w1 ⟨hb1, ⟨v, rfl⟩ | ⟨ts, v, hts, has, hs2, rfl, hown⟩⟩
  · clear hpt
    go_wp2_with fail
    go_ret
    exact ⟨rfl, hb1⟩
  · by_cases hdm : 0 ≤ dm ∧ dm ≤ 3
    · obtain ⟨d, rfl⟩ : ∃ d : Nat, dm = (d : Int) := ⟨dm.toNat, by omega⟩
      have hd : d < 4 := by omega
      have hd3 : ¬ (3 : Int) < (d : Int) := by omega
      have hd0 : ¬ ((d : Int) < 0) := by omega
      have hgood := good_of _ _ _ _ (Nat.le_refl _) hts
      have hsl : (By s).length = s.size := size_list s
      have htl : ∀ t ∈ ts, t.2.length ≤ 2000 := fun t ht => by have := tok_len _ _ _ _ (Nat.le_refl _) hts t ht; omega
      have hsp := spaced_two _ _ _ _ (Nat.le_refl _) hts
      have htc : ts.length ≤ 2000 := by
        have : ∀ (l : List Tok), (∀ t ∈ l, Good t) → 2 * l.length ≤ (spaced l).length := fun l => by
          induction l with
          | nil => intro _; exact Nat.zero_le _
          | cons t l ih =>
            intro hg
            have h1 := ih fun u hu => hg u (List.mem_cons_of_mem _ hu)
            have h2 : 1 ≤ t.2.length := by
              cases hg t (List.mem_cons_self ..) with
              | word h0 _ => exact List.length_pos_iff.2 h0
              | num h0 _ _ => exact List.length_pos_iff.2 h0
              | sign _ => exact Nat.le_refl _
            simp only [spaced, List.flatMap_cons, List.length_append, List.length_cons, List.length_nil] at h1 ⊢
            omega
        have := this ts hgood
        omega
      have hpb := pbody_any ts v w.heap.size w1 htc htl hown
      have HG := Lib.hid hgood
      have HTL := Lib.hid htl
      have HTS := Lib.hid hts
      have HAS := Lib.hid has
      have HSP := Lib.hid hsp
      have HB1 := Lib.hid hb1
      clear hgood htl hts has hsp hb1 hown htc hpt
      go_wp2_with fail
      go_at_call 7
      refine hpb.mono ?_
      rintro _ wq ⟨hwq, ⟨B, hB, rfl⟩ | ⟨hB, x, rfl⟩⟩
      · rw [hwq]
        clear hwq
        obtain ⟨X, hX⟩ : ∃ X, w1.heap.size = X := ⟨_, rfl⟩
        have HROWX : Hid (Row (w1.alloc (.cells #[.int .i64 0, .int .i64 0, .slice none 0 0, .slice none 0 0] 33)) X #[.int .i64 0, .int .i64 0, .slice none 0 0, .slice none 0 0] 33) := Lib.hid (by rw [← hX]; exact Row.new w1 _ 33)
        have hba : Below X w1 (w1.alloc (.cells #[.int .i64 0, .int .i64 0, .slice none 0 0, .slice none 0 0] 33)) := by rw [← hX]; exact ((Mod.refl (fun _ => False) w1).alloc _).below (fun _ _ h => h)
        have hbs := HB1.out.size
        have HBX : Hid (Below w.heap.size w (w1.alloc (.cells #[.int .i64 0, .int .i64 0, .slice none 0 0, .slice none 0 0] 33))) := Lib.hid (HB1.out.trans (hba.mono (by omega)))
        have HSX : Hid ((w1.alloc (.cells #[.int .i64 0, .int .i64 0, .slice none 0 0, .slice none 0 0] 33)).heap.size = X + 1) := Lib.hid (by simp [hX])
        clear hba
        go_upto_region 6 with (fail)
        have hsB : (spaced B).length ≤ 4000 := by
          obtain ⟨q, hq⟩ := body_prefix _ _ _ _ hB
          have h := HSP.out
          rw [hq] at h
          simp only [spaced, List.flatMap_append, List.length_append] at h ⊢
          omega
        have hsub : ∀ t ∈ B, t ∈ ts := fun t ht => by
          obtain ⟨q, hq⟩ := body_prefix _ _ _ _ hB
          rw [hq]; exact List.mem_append_left _ ht
        have HSUB := Lib.hid hsub
        have HHD := Lib.hid (body_head hB)
        have HBF := Lib.hid hB
        clear hsub hB hpb
        generalize w1.alloc (.cells #[.int .i64 0, .int .i64 0, .slice none 0 0, .slice none 0 0] 33) = W at *
        go_wp2_with fail
        go_at_call 9
        refine (kind_any _).mono ?_
        rintro _ wq ⟨rfl, hwq⟩
        rw [hwq]
        clear hwq
        go_wp2_with fail
        go_at_call 10
        refine (tag_any d hd _).mono ?_
        rintro e w2 ⟨hb2, rfl⟩
        have hcat := wkt_cat d B
        have htg : (tagL d).length ≤ 4 := by
          obtain rfl | rfl | rfl | rfl : d = 0 ∨ d = 1 ∨ d = 2 ∨ d = 3 := by omega
          all_goals decide
        have hl1 : ¬ 9223372036854775807 < 5 + (tagL d).length := by omega
        have hl2 : ¬ 9223372036854775807 < 5 + (tagL d).length + 1 := by omega
        have hl3 : ¬ 9223372036854775807 < 5 + (tagL d).length + 1 + (spaced B).length := by omega
        go_wp2_with fail
        have hb0 := HBX.out.size
        have hbW2 : Below w.heap.size w w2 := HBX.out.trans (hb2.mono (by omega))
        have hTW2 := HC0.out.mono (base := w.heap.size) hlo hbW2 HT.out
        have hwk := wkt_any HC0.out hd hTW2 (by have := hb2.size; omega) (fun t ht => HG.out t (HSUB.out t ht)) (fun t ht => HTL.out t (HSUB.out t ht)) HHD.out hsB
        have HRX2 : Hid (Row w2 X #[.int .i64 0, .int .i64 0, .slice none 0 0, .slice none 0 0] 33) := Lib.hid ((hb2.block X (by rw [HSX.out]; omega)).trans HROWX.out)
        have hsX2 : X + 1 ≤ w2.heap.size := by have := hb2.size; have := HSX.out; omega
        have HB2 := Lib.hid hbW2
        clear hcat hl1 hl2 hl3 htg HROWX HBX HSX hTW2 hbW2 hb2
        go_at_call 8
        refine hwk.mono ?_
        clear hwk
        rintro e w3 ⟨hb3, hT3, ⟨hno, rfl⟩ | ⟨o, v3, hso, rfl, hown3⟩⟩
        · have HPN : Hid (progRead PF (wid d) ts = none) := Lib.hid (by rw [← read_law HNL.out (wid d) ts HG.out, HBF.out, Option.bind_some]; exact hno)
          have hs3 := hb3.size
          have HRX3 : Hid (Row w3 X #[.int .i64 0, .int .i64 0, .slice none 0 0, .slice none 0 0] 33) := Lib.hid ((hb3.block X (by omega)).trans HRX2.out)
          have hW : Mod (· = X) w3 _ := ((((Mod.refl (· = X) w3).set1 (j := 0) (.int .i64 0)).set1 (j := 1) (.int .i64 0)).set1 (j := 2) (.slice none 0 0)).set1 (j := 3) (.slice none 0 0)
          have hB3 : Below w.heap.size w w3 := HB2.out.trans (hb3.mono (by omega))
          have HB4 := Lib.hid (hB3.trans (hW.below_of (N := w.heap.size) (by omega) (fun k hk e => by omega)))
          have HT4 := Lib.hid (HC0.out.mono (base := w.heap.size) hlo HB4.out HT.out)
          have z0 : w3.cell? ⟨X, 0, none⟩ = some (.int .i64 0) := HRX3.out.cell rfl
          have z1 : w3.cell? ⟨X, 1, none⟩ = some (.int .i64 0) := HRX3.out.cell rfl
          have z2 : w3.cell? ⟨X, 2, none⟩ = some (.slice none 0 0) := HRX3.out.cell rfl
          have z3 : w3.cell? ⟨X, 3, none⟩ = some (.slice none 0 0) := HRX3.out.cell rfl
          have zf := HRX3.out.frozen
          clear hW hB3 hb3 hT3 hno HRX2 HB2
          go_upto_region 8 with (fail)
          generalize ((((w3.setCell ⟨X, 0, none⟩ (.int .i64 0)).setCell ⟨X, 1, none⟩ (.int .i64 0)).setCell ⟨X, 2, none⟩ (.slice none 0 0)).setCell ⟨X, 3, none⟩ (.slice none 0 0)) = w4 at *
          have hgl4 := HGL.out.mono HB4.out (by have := HC0.out.low; omega)
          have hx4 := HX.out.imp fun x hx => low_cell HB4.out (by have := HC0.out.low; omega) hx
          have hs4 := HB4.out.size
          have hrd := readBody_any HC0.out hd HT4.out (by omega) hgl4 hx4 hs2 HTS.out HAS.out
          clear hgl4 hx4
          go_wp2_with fail
          go_at_call 5
          refine hrd.mono ?_
          clear hrd
          rintro e w5 ⟨hb5, ⟨_, rfl⟩ | ⟨o', v5, xs5, hpo, _, _, _⟩⟩
          · go_wp2_with fail
            go_ret
            exact ⟨rfl, (HB4.out.trans (hb5.mono (by have := HB4.out.size; omega))).alloc (by have := HB4.out.size; have := hb5.size; omega) _⟩
          · exact absurd (HPN.out.symm.trans hpo) (by simp)
        · have HPN : Hid (progRead PF (wid d) ts = some o) := Lib.hid (by rw [← read_law HNL.out (wid d) ts HG.out, HBF.out, Option.bind_some]; exact hso)
          obtain ⟨aa3, ll3, cc3, rfl⟩ := own_slice hown3
          have hs3 := hb3.size
          have HRX3 : Hid (Row w3 X #[.int .i64 0, .int .i64 0, .slice none 0 0, .slice none 0 0] 33) := Lib.hid ((hb3.block X (by omega)).trans HRX2.out)
          have hW : Mod (· = X) w3 _ := ((((Mod.refl (· = X) w3).set1 (j := 0) (.int .i64 1)).set1 (j := 1) (.int .i64 (d : Int))).set1 (j := 2) (.slice aa3 ll3 cc3)).set1 (j := 3) (.slice none 0 0)
          have hB3 : Below w.heap.size w w3 := HB2.out.trans (hb3.mono (by omega))
          have HB4 := Lib.hid (hB3.trans (hW.below_of (N := w.heap.size) (by omega) (fun k hk e => by omega)))
          have HT4 := Lib.hid (HC0.out.mono (base := w.heap.size) hlo HB4.out HT.out)
          have HROW4 : Hid (Row ((((w3.setCell ⟨X, 0, none⟩ (.int .i64 1)).setCell ⟨X, 1, none⟩ (.int .i64 (d : Int))).setCell ⟨X, 2, none⟩ (.slice aa3 ll3 cc3)).setCell ⟨X, 3, none⟩ (.slice none 0 0)) X #[.int .i64 1, .int .i64 (d : Int), .slice aa3 ll3 cc3, .slice none 0 0] 33) := Lib.hid ((((HRX3.out.set 0 (.int .i64 1)).set 1 (.int .i64 (d : Int))).set 2 (.slice aa3 ll3 cc3)).set 3 (.slice none 0 0))
          have HOW4 := Lib.hid (own_far_cells hown3 HRX3.out (by decide) (w' := ((((w3.setCell ⟨X, 0, none⟩ (.int .i64 1)).setCell ⟨X, 1, none⟩ (.int .i64 (d : Int))).setCell ⟨X, 2, none⟩ (.slice aa3 ll3 cc3)).setCell ⟨X, 3, none⟩ (.slice none 0 0))) (fun k hk => by rw [heap_setCell_other _ _ _ _ hk, heap_setCell_other _ _ _ _ hk, heap_setCell_other _ _ _ _ hk, heap_setCell_other _ _ _ _ hk]))
          have hs4' : X + 1 ≤ ((((w3.setCell ⟨X, 0, none⟩ (.int .i64 1)).setCell ⟨X, 1, none⟩ (.int .i64 (d : Int))).setCell ⟨X, 2, none⟩ (.slice aa3 ll3 cc3)).setCell ⟨X, 3, none⟩ (.slice none 0 0)).heap.size := by have := hW.size; omega
          have z0 : w3.cell? ⟨X, 0, none⟩ = some (.int .i64 0) := HRX3.out.cell rfl
          have z1 : w3.cell? ⟨X, 1, none⟩ = some (.int .i64 0) := HRX3.out.cell rfl
          have z2 : w3.cell? ⟨X, 2, none⟩ = some (.slice none 0 0) := HRX3.out.cell rfl
          have z3 : w3.cell? ⟨X, 3, none⟩ = some (.slice none 0 0) := HRX3.out.cell rfl
          have zf := HRX3.out.frozen
          clear hW hB3 hb3 hT3 hso HRX2 HB2 hown3
          go_upto_region 8 with (fail)
          generalize ((((w3.setCell ⟨X, 0, none⟩ (.int .i64 1)).setCell ⟨X, 1, none⟩ (.int .i64 (d : Int))).setCell ⟨X, 2, none⟩ (.slice aa3 ll3 cc3)).setCell ⟨X, 3, none⟩ (.slice none 0 0)) = w4 at *
          have hgl4 := HGL.out.mono HB4.out (by have := HC0.out.low; omega)
          have hx4 := HX.out.imp fun x hx => low_cell HB4.out (by have := HC0.out.low; omega) hx
          have hs4 := HB4.out.size
          have hrd := readBody_any HC0.out hd HT4.out (by omega) hgl4 hx4 hs2 HTS.out HAS.out
          clear hgl4 hx4
          go_wp2_with fail
          go_at_call 5
          refine hrd.mono ?_
          clear hrd
          rintro e w5 ⟨hb5, ⟨hpn, _⟩ | ⟨o', v5, xs5, hpo, rfl, rfl, hown5⟩⟩
          · exact absurd (HPN.out.symm.trans hpn) (by simp)
          have hoo : o' = o := Option.some.inj (hpo.symm.trans HPN.out)
          subst hoo
          obtain ⟨aa5, ll5, cc5, rfl⟩ := own_slice hown5
          have hs5 := hb5.size
          obtain ⟨Y, hY⟩ : ∃ Y, w5.heap.size = Y := ⟨_, rfl⟩
          have hrowY : Row (w5.alloc (.cells #[.int .i64 1, .int .i64 (d : Int), .slice aa5 ll5 cc5, .slice none 0 0] 33)) Y #[.int .i64 1, .int .i64 (d : Int), .slice aa5 ll5 cc5, .slice none 0 0] 33 := by rw [← hY]; exact Row.new w5 _ 33
          have hrow5 : Row w5 X #[.int .i64 1, .int .i64 (d : Int), .slice aa3 ll3 cc3, .slice none 0 0] 33 := (hb5.block X (by omega)).trans HROW4.out
          have hrowX : Row (w5.alloc (.cells #[.int .i64 1, .int .i64 (d : Int), .slice aa5 ll5 cc5, .slice none 0 0] 33)) X #[.int .i64 1, .int .i64 (d : Int), .slice aa3 ll3 cc3, .slice none 0 0] 33 := hrow5.alloc _
          have hba : Below Y w5 (w5.alloc (.cells #[.int .i64 1, .int .i64 (d : Int), .slice aa5 ll5 cc5, .slice none 0 0] 33)) := by rw [← hY]; exact ((Mod.refl (fun _ => False) w5).alloc _).below (fun _ _ h => h)
          have HOA := Lib.hid (own_below hown5 hba (by omega))
          have HOB := Lib.hid (own_below (own_below HOW4.out hb5 (Nat.le_refl _)) hba (by omega))
          have p0 : (w5.alloc (.cells #[.int .i64 1, .int .i64 (d : Int), .slice aa5 ll5 cc5, .slice none 0 0] 33)).cell? ⟨X, 0, none⟩ = some (.int .i64 1) := hrowX.cell rfl
          have p1 : (w5.alloc (.cells #[.int .i64 1, .int .i64 (d : Int), .slice aa5 ll5 cc5, .slice none 0 0] 33)).cell? ⟨X, 1, none⟩ = some (.int .i64 (d : Int)) := hrowX.cell rfl
          have p2 : (w5.alloc (.cells #[.int .i64 1, .int .i64 (d : Int), .slice aa5 ll5 cc5, .slice none 0 0] 33)).cell? ⟨X, 2, none⟩ = some (.slice aa3 ll3 cc3) := hrowX.cell rfl
          have p3 : (w5.alloc (.cells #[.int .i64 1, .int .i64 (d : Int), .slice aa5 ll5 cc5, .slice none 0 0] 33)).cell? ⟨X, 3, none⟩ = some (.slice none 0 0) := hrowX.cell rfl
          have pf := hrowX.frozen
          have q0 : (w5.alloc (.cells #[.int .i64 1, .int .i64 (d : Int), .slice aa5 ll5 cc5, .slice none 0 0] 33)).cell? ⟨Y, 0, none⟩ = some (.int .i64 1) := hrowY.cell rfl
          have q1 : (w5.alloc (.cells #[.int .i64 1, .int .i64 (d : Int), .slice aa5 ll5 cc5, .slice none 0 0] 33)).cell? ⟨Y, 1, none⟩ = some (.int .i64 (d : Int)) := hrowY.cell rfl
          have q2 : (w5.alloc (.cells #[.int .i64 1, .int .i64 (d : Int), .slice aa5 ll5 cc5, .slice none 0 0] 33)).cell? ⟨Y, 2, none⟩ = some (.slice aa5 ll5 cc5) := hrowY.cell rfl
          have q3 : (w5.alloc (.cells #[.int .i64 1, .int .i64 (d : Int), .slice aa5 ll5 cc5, .slice none 0 0] 33)).cell? ⟨Y, 3, none⟩ = some (.slice none 0 0) := hrowY.cell rfl
          have qf := hrowY.frozen
          have HLEN := Lib.hid (prog_len hpo)
          have HB5 := Lib.hid (HB4.out.trans ((hb5.mono (by have := HB4.out.size; omega)).trans (hba.mono (by have := HB4.out.size; omega))))
          clear hrowY hrow5 hrowX hba hown5 hb5 hpo
          go_upto_region 9 with (fail)
          have hsg := sameGeom_any (d := d) (Nat.le_trans HLEN.out (by unfold wid; split <;> split <;> omega)) HOA.out HOB.out
          go_wp2_with fail
          go_at_call 11
          refine hsg.mono ?_
          rintro e w6 ⟨rfl, hb6⟩
          go_wp2_with fail
          go_ret
          exact ⟨rfl, HB5.out.trans (hb6.mono (by have := HB5.out.size; omega))⟩
      · rw [hwq]
        clear hwq
        have HPN : Hid (progRead PF (wid d) ts = none) := Lib.hid (by rw [← read_law HNL.out (wid d) ts HG.out, hB]; rfl)
        have HB4 := Lib.hid (HB1.out.trans ((((Mod.refl (fun _ => False) w1).alloc (.cells #[.int .i64 0, .int .i64 0, .slice none 0 0, .slice none 0 0] 33)).below (fun _ _ h => h)).mono HB1.out.size))
        have HT4 := Lib.hid (HC0.out.mono (base := w.heap.size) hlo HB4.out HT.out)
        clear hpb hB
        go_upto_region 8 with (fail)
        generalize w1.alloc (.cells #[.int .i64 0, .int .i64 0, .slice none 0 0, .slice none 0 0] 33) = w4 at *
        have hgl4 := HGL.out.mono HB4.out (by have := HC0.out.low; omega)
        have hx4 := HX.out.imp fun x hx => low_cell HB4.out (by have := HC0.out.low; omega) hx
        have hs4 := HB4.out.size
        have hrd := readBody_any HC0.out hd HT4.out (by omega) hgl4 hx4 hs2 HTS.out HAS.out
        clear hgl4 hx4
        go_wp2_with fail
        go_at_call 5
        refine hrd.mono ?_
        clear hrd
        rintro e w5 ⟨hb5, ⟨_, rfl⟩ | ⟨o', v5, xs5, hpo, _, _, _⟩⟩
        · go_wp2_with fail
          go_ret
          exact ⟨rfl, (HB4.out.trans (hb5.mono (by have := HB4.out.size; omega))).alloc (by have := HB4.out.size; have := hb5.size; omega) _⟩
        · exact absurd (HPN.out.symm.trans hpo) (by simp)
    · have h3 : dm < 0 ∨ (3 : Int) < dm := by omega
      clear hdm hts has hs2 hown hpt
      rcases h3 with h3 | h3
      · go_wp2_with fail
        go_ret
        exact ⟨rfl, hb1⟩
      · have h0 : ¬ dm < 0 := by omega
        go_wp2_with fail
        go_ret
        exact ⟨rfl, hb1⟩
/-- The law's own function. -/
theorem law_any {lo : Nat} {T : World → Prop} {PF : List UInt8 → Option Nat} (C0 : PFC lo T PF) (HN : NumLaw PF) {s : ByteArray} {w : World} {dm : Int} (hT : T w) (hlo : lo ≤ w.heap.size) (hgl : Gl w) (hx : ∃ x, w.cell? ⟨1, 0, none⟩ = some (.string x)) (hs : (s.size : Int) ≤ 9223372036854775807) :
    Calls Tryz.prog 3 #[.string s, .int .i64 dm] w fun e w' => e = .returned (.bool true) ∧ Below w.heap.size w w' := by
  have hp := pRead_any (dm := dm) C0 HN hT hlo hgl hx hs
  clear hT C0 HN hgl hx
  by_cases hb : (2147483647 : Int) < (s.size : Int)
  · go_enter Tryz.func3, Tryz.ntmps3
    go_wp2_with fail
    go_ret
    exact ⟨rfl, Below.refl _ _⟩
  · go_enter Tryz.func3, Tryz.ntmps3
    go_wp2_with fail
    go_at_call 4
    refine hp.mono ?_
    rintro _ w2 ⟨rfl, hb2⟩
    go_wp2_with fail
    go_ret
    exact ⟨rfl, hb2⟩
end Go.Proofs.YtadpeebcombjnaaGreatDoor
