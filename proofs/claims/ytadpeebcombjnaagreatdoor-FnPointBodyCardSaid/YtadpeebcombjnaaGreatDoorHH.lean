/- Proved: FnPointBody as its tied card (card_holds : Rows.FnPointBodyCardSaid, whole form): for every text and every type of coordinates the law's call returns true, does not panic, and leaves both arguments as they were, in every order of evaluation that Go leaves open.
   Conditions: none of ours ahead of the statement. The statement's own: the law's guards (at most 2000 bytes, tokens of the grammar alone), the form's bounds on what comes in, and the listed package-level variables as the program's text lays them (the given tie). -/
import Derived.Test.YtadpeebcombjnaaGreatDoorHG
import Derived.Test.YtadpeebcombjnaaGreatDoorCards
import Derived.Test.YtadpeebcombjnaaGreatDoorTie
import Derived.ChangeSame
import Derived.ChangeVars
import Derived.JoinedOf
import Derived.RowKit
import Derived.LaidLaws
import Derived.LaidHandle
import Derived.Stop.Joined
import Derived.SevenTiedAt
namespace Go.Proofs.YtadpeebcombjnaaGreatDoor
open Go Go.Proofs Go.RowKit Go.Lib Go.ChangeShapes Go.WideShapes
open Go.ChangeMaps (open_string shut_string)
set_option maxRecDepth 100000
theorem own_env : ownKnob Tryz.prog.godebug = none := by kernel_rfl
theorem no_handles : (Rows.fnPointBodyRow.laid.filter fun x => x.2.handleName?.isSome) = [] := by kernel_rfl
theorem met_of {W : World} (h : laidMetH Tryz.prog Rows.fnPointBodyRow.laid W) : laidMet Tryz.prog Rows.fnPointBodyRow.laid W := by
  unfold laidMetH at h
  rw [no_handles] at h
  exact h
theorem contract_any {H : Type} {enc : TypeId × Value → H} {W : World} {base : Nat} {args : Array Value} {ds gs : List (DataW H)} {before : List MemPlace} (hsz : 24 ≤ W.heap.size)
    (hval : ∀ (j : Nat) t v, Tryz.f3.params[j]? = some t → args[j]? = some v → Value.okWide Tryz.prog W .any base t v)
    (hW : DataW.Whole enc Tryz.prog Tryz.f3.params.toList Rows.fnPointBodySpec.vars false W args.toList ds gs before) (hL : laidMet Tryz.prog Rows.fnPointBodyRow.laid W) :
    Calls Tryz.prog 3 args W fun e W' => ∃ v, e = .returned v ∧ Rows.fnPointBodySpec.post enc Tryz.prog Tryz.f3 false true false false W args v W' := by
  have hW' := hW
  obtain ⟨p, q, hA0, hV0, rfl, _, _⟩ := hW
  have hA : DataW.TrodAll enc Tryz.prog W 0 (fun _ => true) true Tryz.f3.params.toList args.toList ds p := hA0
  rw [Tryz.params3] at hA hval
  obtain ⟨v0, v1, d0, d1, p0, p1, rfl, rfl, rfl, h0, h1⟩ := trodAll_two hA
  obtain ⟨rfl, rfl⟩ := trodVars_none hV0
  obtain ⟨s, rfl, rfl, rfl, ws⟩ := open_string Tryz.underlying9 (hval 0 9 v0 rfl rfl) h0
  obtain ⟨n, rfl, rfl, rfl, wn⟩ := open_int Tryz.underlying3 (hval 1 3 v1 rfl rfl) h1
  clear hA0 hV0 hval h0 h1 hA
  obtain ⟨hT, hG, hx⟩ := tabs_of hL hsz
  have hm : (s.size : Int) ≤ 9223372036854775807 := by unfold maxLen at ws; omega
  refine (law_any (pf_contract hsz) num_law (dm := n) hT (Nat.le_refl _) hG hx hm).mono ?_
  rintro e W' ⟨rfl, bel⟩
  have e1 : Rows.fnPointBodySpec.fn H ([.lit (.string s.data.toList), .lit (.int .i64 n)] ++ []) = { results := [.lit (.bool true)], args := [.lit (.string s.data.toList), .lit (.int .i64 n)] } := rfl
  refine ⟨_, rfl, _, _, _, [], [], [], hW', ?_, ?_, ?_, bel.frame _, fun h => by cases h⟩
  · rw [e1]; exact trodAll_mk1 (shut_bool Tryz.underlying4 true)
  · rw [e1]; exact trodAll_mk2 (shut_string Tryz.underlying9 ws) (shut_int Tryz.underlying3 wn)
  · rw [e1]; rfl
theorem shape23 {w : World} (h : w.ShapedOpen Tryz.prog) : 24 ≤ w.heap.size := by
  have hz : ∃ z t, ((begin Tryz.prog (fun _ _ => 0) default).world.heap[23]?).bind Obj.row? = some (z, t) := ⟨#[.slice none 0 0], 263, by kernel_rfl⟩
  obtain ⟨z, t, hz⟩ := hz
  obtain ⟨cs, hc, _⟩ := h.1 23 z t (by rw [show Tryz.prog.globals.size = 24 from by kernel_rfl]; decide) hz
  rcases Nat.lt_or_ge 23 w.heap.size with h1 | h1
  · omega
  · rw [Array.getElem?_eq_none h1] at hc; cases hc
noncomputable abbrev enteredW (os : Os) : World := (laidWorld os).forCall (fun _ _ => 0) ⟨#[], #[.string ⟨#[]⟩, .int .i64 0], []⟩
def varB (P : Program) (w : World) (g : Nat) : Bool :=
  match ((begin P (fun _ _ => 0) default).world.heap[g]?).bind Obj.row? with
    | none => true
    | some (zero, t) =>
      match w.heap[g]? with
      | some (.cells cs t' frozen) => decide (t' = t) && decide (frozen = (0, 0)) && cs.size == zero.size && (!P.buildable t || Row.okRefB P w t cs)
      | _ => false
theorem w_vars (os : Os) : ((List.range 24).all fun g => g == 14 || varB Tryz.prog (enteredW os) g) = true := by kernel_rfl
theorem w_rest (os : Os) : ((enteredW os).heap.toList.drop Tryz.prog.globals.size).take ((begin Tryz.prog (fun _ _ => 0) default).world.heap.size - Tryz.prog.globals.size) = (begin Tryz.prog (fun _ _ => 0) default).world.heap.toList.drop Tryz.prog.globals.size := by kernel_rfl
theorem types14 : Tryz.prog.cellTypes Tryz.prog.depth 225 = some (List.replicate 1392 82) := by kernel_rfl
theorem zero14 : (((begin Tryz.prog (fun _ _ => 0) default).world.heap[14]?).bind Obj.row?).map (fun x => (x.1.size, x.2)) = some (1392, 225) := by kernel_rfl
theorem pin_lt : ∀ x ∈ Go.Pinned.pow10Rows, x.1 < 18446744073709551616 ∧ x.2 < 18446744073709551616 := by decide +kernel
theorem prc_lt : ∀ x ∈ Go.Pinned.pow10Rows.flatMap prCells, ∃ n : Nat, x = Value.int .u64 (n : Int) ∧ n < 18446744073709551616 := by
  intro x hx
  obtain ⟨r, h0, hr⟩ := List.mem_flatMap.1 hx
  have := pin_lt r h0
  rcases List.mem_cons.1 hr with rfl | hr
  · exact ⟨_, rfl, this.1⟩
  · rw [List.mem_singleton.1 hr]; exact ⟨_, rfl, this.2⟩
theorem prc_len : (Go.Pinned.pow10Rows.flatMap prCells).length = 1392 := by rw [flat2_len prCells (fun _ => rfl), tab_len]
theorem row14 (w : World) : Row.ok Tryz.prog w .any 0 225 (Go.Pinned.pow10Rows.flatMap prCells).toArray := by
  refine ⟨_, types14, ⟨1, by rw [List.length_replicate]; exact prc_len⟩, fun i v hv => ?_⟩
  rw [List.getElem?_toArray] at hv
  obtain ⟨n, rfl, hn⟩ := prc_lt _ (List.mem_of_getElem? hv)
  refine ⟨82, ?_, ?_⟩
  · rw [List.length_replicate, List.getElem?_replicate, if_pos (Nat.mod_lt _ (by decide))]
  · refine Cell.ok_of_okB ?_
    have e1 : IntKind.u64.min = 0 := rfl
    have e2 : IntKind.u64.max = 18446744073709551615 := rfl
    unfold Cell.okB
    rw [Tryz.underlying82]
    simp only [e1, e2, Bool.and_eq_true, decide_eq_true_eq]
    exact ⟨⟨trivial, by omega⟩, by omega⟩
theorem heap14e (os : Os) : (enteredW os).heap[14]? = some (.cells (Go.Pinned.pow10Rows.flatMap prCells).toArray 225 (0, 0)) := by kernel_rfl
theorem w_shaped (os : Os) : (enteredW os).Shaped Tryz.prog := by
  refine ⟨fun g zero t hg hz => ?_, fun k h1 h2 => ?_⟩
  case refine_2 =>
    have := congrArg (·[k - Tryz.prog.globals.size]?) (w_rest os)
    simp only [List.getElem?_take, List.getElem?_drop, Array.getElem?_toList] at this
    rw [if_pos (by omega), Nat.add_sub_cancel' h1] at this
    exact this
  rw [show Tryz.prog.globals.size = 24 from by kernel_rfl] at hg
  have := List.all_eq_true.1 (w_vars os) g (List.mem_range.2 hg)
  by_cases h14 : g = 14
  · subst h14
    have h0 := zero14
    rw [hz] at h0
    have h3 := Option.some.inj h0
    have h4 : zero.size = 1392 := congrArg Prod.fst h3
    have h5 : t = 225 := congrArg Prod.snd h3
    subst h5
    exact ⟨_, heap14e os, by rw [h4]; exact prc_len, fun _ => row14 _⟩
  · rw [Bool.or_eq_true] at this
    rcases this with this | this
    · exact absurd (beq_iff_eq.1 this) h14
    unfold varB at this
    rw [hz] at this
    simp only at this
    split at this
    · rename_i cs t' fr hw
      simp only [Bool.and_eq_true, decide_eq_true_eq, beq_iff_eq, Bool.or_eq_true, Bool.not_eq_true'] at this
      obtain ⟨⟨⟨rfl, rfl⟩, hs⟩, hb⟩ := this
      refine ⟨cs, hw, hs, fun hbuild => ?_⟩
      rcases hb with hb | hb
      · rw [hbuild] at hb; cases hb
      · exact Row.ok_of_okRefB hb
    · cases this
theorem law_lifted (os : Os) (started : os.Started) (H : Type) (enc : TypeId × Value → H) :
    ReturnsInHanded {} Tryz.checked os 3 .any (fun w args => (Rows.fnPointBodySpec.pre enc Tryz.prog Tryz.f3 [] false w args ∧ laidMetH Tryz.prog Rows.fnPointBodyRow.laid w) ∧ sizedMet enc Tryz.prog Tryz.f3 (OpenSpec.ofChange Rows.fnPointBodySpec) false w args)
      (Rows.fnPointBodySpec.post enc Tryz.prog Tryz.f3 false true false false) := by
  refine returnsInHanded_of_calls (C := Tryz.checked) own_env started (by kernel_rfl) (ChangeSpec.witness_shaped (enc := enc) (C := Tryz.checked) (os := os) (X := fun w _ => laidMetH Tryz.prog Rows.fnPointBodyRow.laid w) false (laidWorld os) #[.string ⟨#[]⟩, .int .i64 0] 8 rfl (w_shaped os) (by kernel_rfl) (by kernel_rfl) (by kernel_rfl) (laid_metH os _)) ?_
  intro w tape i _ hsh _ hok hpre _
  obtain ⟨_, _, _, fn', hfn', _, _, _, _, hval⟩ := hok
  have e : fn' = Tryz.f3 := Option.some.inj (hfn'.symm.trans Tryz.func3)
  subst e
  obtain ⟨⟨⟨ds, gs, before, hw, hc⟩, hx⟩, hz⟩ := hpre
  have hw' := DataW.Whole.of_heap (w' := w.forCall tape i) (by rfl) hw
  have hx' : laidMetH Tryz.prog Rows.fnPointBodyRow.laid (w.forCall tape i) := laidMetH.of_heap (by rfl) hx
  refine (contract_any (base := w.heap.size) (shape23 hsh) hval hw' (met_of hx')).mono fun e W' ⟨v, he, hp⟩ => ?_
  subst he
  exact ChangeSpec.post_blind hp
theorem row_holds : Rows.FnPointBodySaid :=
  OpenClaim.holds_of_wide 3 Tryz.f3 rfl rfl rfl rfl rfl rfl rfl ⟨rfl, rfl, rfl, rfl, rfl⟩ rfl rfl rfl rfl rfl (by kernel_rfl) Tryz.func3 (by kernel_rfl)
    (of_decide_eq_true (by kernel_rfl)) (by unfold Func.isWrapper; rw [if_neg (of_decide_eq_false (by kernel_rfl))]; exact ⟨rfl, rfl⟩)
    (fun os started H enc _ => law_lifted os started H enc)
/-- The tied card. -/
theorem card_holds : Rows.FnPointBodyCardSaid :=
  Claim7.holds_tied_plain_at .later [] [.data, .data, .widerDeep, .widerDeep, .data, .data, .data, .data, .data, .data, .sentinel, .sentinel, .sentinel, .sentinel, .data, .pinned, .pinned, .pinned] true (true, "c6b2fd69f1ec6b771e2b599a57bb3d8e5dd13ed5ef7fbfe4e81295bc96da9b29") true
    row_holds (fun _ h => by cases h) (by kernel_rfl) (fun _ h => by cases h) fnPointBody_row_tie rfl ⟨rfl, rfl⟩ (by kernel_rfl) rfl
    (fun f fn hf hfn => by
      obtain rfl : f = 3 := Option.some.inj ((show Tryz.prog.funcNamed "pub-alidade/laws.FnPointBody" = some 3 by kernel_rfl).symm.trans hf) |>.symm
      obtain rfl : fn = Tryz.f3 := (Option.some.inj (Tryz.func3.symm.trans hfn)).symm
      exact ⟨by kernel_rfl, fun j t ht => by
        rw [Tryz.params3] at ht
        have h3 : t = 9 ∨ t = 3 := by
          rcases j with _ | _ | j
          · left; simpa using ht.symm
          · right; simpa using ht.symm
          · simp at ht
        rcases h3 with rfl | rfl
        · exact (show Tryz.prog.wantsStandIn 9 = false by kernel_rfl)
        · exact (show Tryz.prog.wantsStandIn 3 = false by kernel_rfl)⟩)
    (by kernel_rfl)
#print axioms card_holds
end Go.Proofs.YtadpeebcombjnaaGreatDoor
