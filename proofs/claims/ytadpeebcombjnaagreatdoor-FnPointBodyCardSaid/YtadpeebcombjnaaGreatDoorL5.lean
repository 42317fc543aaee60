/- Scanner.next: at a text of ASCII each call gives the next byte, or -1 at the end, and gathers the token's text. -/
import Derived.Test.YtadpeebcombjnaaGreatDoorL3L4
import Derived.Deep.LoopGhost
import Derived.Deep.DeepFit
import Derived.Deep.RegionWith
namespace Go.Proofs.YtadpeebcombjnaaGreatDoor
open Go Go.Proofs Go.RowKit Go.Lib
set_option maxRecDepth 100000
/-- Below 'base' nothing turns; from there on only blocks B and R, and rows of bytes. -/
structure Fr (base B R : Nat) (w w' : World) : Prop where
  below : Below base w w'
  keep : ∀ k o, w.heap[k]? = some o → k ≠ B → k ≠ R → (∀ c f, o ≠ .cells c 5 f) → w'.heap[k]? = some o
theorem Fr.refl (base B R : Nat) (w : World) : Fr base B R w w := ⟨Below.refl _ _, fun _ _ h _ _ _ => h⟩
theorem Fr.trans {base B R : Nat} {a b c : World} (h : Fr base B R a b) (k : Fr base B R b c) : Fr base B R a c :=
  ⟨h.below.trans k.below, fun i o hi h1 h2 h3 => k.keep i o (h.keep i o hi h1 h2 h3) h1 h2 h3⟩
theorem Fr.drewN {base B R : Nat} {a b : World} (h : Fr base B R a b) (n : Nat) : Fr base B R a (b.drewN n) := ⟨⟨h.below.os, h.below.tape, h.below.output, h.below.size, h.below.block⟩, h.keep⟩
theorem Fr.of_mod {base B R : Nat} {w w' : World} {S : Nat → Prop} (h : Mod S w w') (hS : ∀ k, S k → k = R ∨ k = B) (hB : base ≤ B) (hR : base ≤ R) (hs : base ≤ w.heap.size) : Fr base B R w w' :=
  ⟨h.below_of hs (fun k hk hk2 => by rcases hS k hk2 with rfl | rfl <;> omega), fun k o hk h1 h2 _ => h.keep hk (fun h3 => by rcases hS k h3 with rfl | rfl; exact h2 rfl; exact h1 rfl)⟩
theorem Fr.setB {base B R j : Nat} {a b : World} (h : Fr base B R a b) (hB : base ≤ B) (v : Value) : Fr base B R a (b.setCell ⟨B, j, none⟩ v) :=
  ⟨h.below.setCell (p := ⟨B, j, none⟩) hB v, fun k o hk h1 h2 h3 => (heap_setCell_other b ⟨B, j, none⟩ k v h1).trans (h.keep k o hk h1 h2 h3)⟩
theorem Fr.of_write {base B R : Nat} {w w' : World} (h : Below base w w') (k : OthersKept 5 (some B) w w') : Fr base B R w w' := by
  exact ⟨h, fun i o hi h1 _ h3 => k i o hi (fun e => h1 (Option.some.inj e)) h3⟩

def ColOf (L : List UInt8) (off p : Nat) (tp : Int) (l : List UInt8) : Option (List UInt8) → Prop
  | none => tp = -1
  | some t => ∃ a : Nat, tp = a ∧ a ≤ p ∧ l.length ≤ off + a ∧ t = l ++ (L.drop (off + a)).take (p - a)
/-- The text scanner and what belongs to it: at place q of the text, having gathered 'col' if it gathers. -/
structure LX (base B R : Nat) (s : ByteArray) (w : World) (q : Nat) (lc : Int) (col : Option (List UInt8)) (te ch : Int) (pk : ByteArray) (ef : Value)
    (C : Array Value) (off p e : Nat) (tp : Int) (tb : Value) (l : List UInt8) : Prop where
  hB : base ≤ B
  hR : base ≤ R
  ne : B ≠ R
  row : Row w B C 103
  scn : Scn 1049 s.data.toList (.iface 116 (.pointer (some ⟨R, 0, none⟩))) off p e lc tp te ch tb ef 28 C
  pkc : C[1048]? = some (.string pk)
  rd : ∃ pr : Int, Row w R #[.string s, .int .i64 (off + e : Nat), .int .i64 pr] 126
  own : w.ownsRow base 5 1 tb l.length (byteCells l)
  pe : p ≤ e
  oe : off + e ≤ s.size
  q : q = off + p
  ll : l.length ≤ off + p
  col : ColOf s.data.toList off p tp l col
def Lx (base B R : Nat) (s : ByteArray) (w : World) (q : Nat) (lc : Int) (col : Option (List UInt8)) (te ch : Int) (pk : ByteArray) (ef : Value) : Prop :=
  ∃ C off p e tp tb l, LX base B R s w q lc col te ch pk ef C off p e tp tb l ∧ lc ≤ (p : Int) ∧ tp + lc ≤ (p : Int)
def NextPost (base B R : Nat) (s : ByteArray) (q : Nat) (col : Option (List UInt8)) (te ch : Int) (pk : ByteArray) (ef : Value) (w : World) (e : Ending) (w' : World) : Prop :=
  Fr base B R w w' ∧ ((∃ h : q < s.size, e = .returned (.int .i32 (s[q].toNat : Int)) ∧ Lx base B R s w' (q + 1) 1 (col.map (· ++ [s[q]])) te ch pk ef) ∨
    (s.size ≤ q ∧ e = .returned (.int .i32 (-1)) ∧ Lx base B R s w' q 0 col te ch pk ef))
theorem set_oth (w : World) (B j : Nat) (v : Value) (k : Nat) (h : k ≠ B) : (w.setCell ⟨B, j, none⟩ v).heap[k]? = w.heap[k]? := heap_setCell_other w ⟨B, j, none⟩ k v h
theorem own_far {w w' : World} {base B n : Nat} {v : Value} {xs : List Value} {C : Array Value} {t : TypeId} (h : w.ownsRow base 5 1 v n xs) (hrow : Row w B C t) (ht : t ≠ 5) (hk : ∀ k, k ≠ B → w'.heap[k]? = w.heap[k]?) : w'.ownsRow base 5 1 v n xs := by
  obtain ⟨h1, h2⟩ := h
  refine ⟨h1, ?_⟩
  rcases h2 with h2 | ⟨g, cap, cur, hv, hg, hh, r⟩
  · exact .inl h2
  · refine .inr ⟨g, cap, cur, hv, hg, (hk g ?_).trans hh, r⟩
    rintro rfl
    have e := hh.symm.trans hrow
    injection e with e
    injection e with _ e2
    exact ht e2.symm
theorem ColOf.step {L : List UInt8} {off p : Nat} {tp : Int} {l : List UInt8} {col : Option (List UInt8)} {c : UInt8} (h : ColOf L off p tp l col) (hc : L[off + p]? = some c) : ColOf L off (p + 1) tp l (col.map (· ++ [c])) := by
  cases col with
  | none => exact h
  | some t =>
    obtain ⟨a, h1, h2, h2b, h3⟩ := h
    refine ⟨a, h1, by omega, h2b, ?_⟩
    show t ++ [c] = _
    rw [h3, List.append_assoc]
    congr 1
    rw [show p + 1 - a = (p - a) + 1 from by omega, List.take_add_one, List.getElem?_drop, show off + a + (p - a) = off + p from by omega, hc]
    rfl
theorem ColOf.tp_le {L : List UInt8} {off p : Nat} {tp : Int} {l : List UInt8} {col : Option (List UInt8)} (h : ColOf L off p tp l col) : tp ≤ (p : Int) := by
  cases col with
  | none => have h : tp = -1 := h
            omega
  | some t => obtain ⟨a, h1, h2, _⟩ := h
              omega
theorem LX.move {base B R : Nat} {s : ByteArray} {w : World} {q : Nat} {lc : Int} {col : Option (List UInt8)} {te ch : Int} {pk : ByteArray} {ef : Value} {C : Array Value} {off p e : Nat} {tp : Int} {tb : Value} {l : List UInt8}
    (h : LX base B R s w q lc col te ch pk ef C off p e tp tb l) {w' : World} {C' : Array Value} {p' : Nat} {lc' tp' te' ch' : Int} {pk' : ByteArray} {ef' : Value} {col' : Option (List UInt8)}
    (hk : ∀ k, k ≠ B → w'.heap[k]? = w.heap[k]?) (hrow : Row w' B C' 103) (hscn : Scn 1049 s.data.toList (.iface 116 (.pointer (some ⟨R, 0, none⟩))) off p' e lc' tp' te' ch' tb ef' 28 C')
    (hpk : C'[1048]? = some (.string pk')) (hp' : p' ≤ e) (hpp : p ≤ p') (hcol : ColOf s.data.toList off p' tp' l col') (hlc : lc' ≤ (p' : Int) ∧ tp' + lc' ≤ (p' : Int)) : Lx base B R s w' (off + p') lc' col' te' ch' pk' ef' :=
  ⟨C', off, p', e, tp', tb, l, ⟨h.hB, h.hR, h.ne, hrow, hscn, hpk, h.rd.imp fun _ hx => (hk R (fun e => h.ne e.symm)).trans hx, own_far h.own h.row (by decide) hk, hp', h.oe, rfl, Nat.le_trans h.ll (by omega), hcol⟩, hlc⟩
structure Gl (w : World) : Prop where
  first : ∀ c : Nat, c < 128 → w.cell? ⟨3, c, none⟩ = some (.int .u8 240)
  eof : ∃ a, w.cell? ⟨2, 0, none⟩ = some (.iface 199 (.pointer (some a)))
set_option maxHeartbeats 2000000 in
theorem next_fast {base B R : Nat} {s : ByteArray} {w : World} {q : Nat} {lc : Int} {col : Option (List UInt8)} {te ch : Int} {pk : ByteArray} {ef : Value} {C : Array Value} {off p e : Nat} {tp : Int} {tb : Value} {l : List UInt8}
    (h : LX base B R s w q lc col te ch pk ef C off p e tp tb l) (hp : p < e) (hasc : ∀ i (h : i < s.size), 9 ≤ (s[i].toNat : Int) ∧ (s[i].toNat : Int) < 128) :
    Calls Tryz.prog 66 #[.pointer (some ⟨B, 0, none⟩)] w (NextPost base B R s q col te ch pk ef w) := by
  have hq : q < s.size := by have := h.q; have := h.oe; omega
  obtain ⟨x29, c29⟩ := h.scn.line
  obtain ⟨x30, c30⟩ := h.scn.col
  obtain ⟨x31, c31⟩ := h.scn.lll
  have d26 := h.row.cell h.scn.pos
  have dch := h.row.cell (h.scn.buf p hp)
  have d29 := h.row.cell c29
  have d30 := h.row.cell c30
  have d31 := h.row.cell c31
  have d32 := h.row.cell h.scn.lcl
  have hfr := h.row.frozen
  have hp2 : p < 1024 := by have := h.scn.ele; omega
  obtain ⟨ha1, ha2⟩ := hasc q hq
  have hx : s.data.toList.getD (off + p) 0 = s[q] := by
    have e1 : off + p = q := h.q.symm
    rw [e1, List.getD_eq_getElem?_getD, List.getElem?_eq_getElem (by rw [size_list]; exact hq)]
    rfl
  rw [hx] at dch
  have H := Lib.hid h
  have HX := Lib.hid hx
  clear h hasc c29 c30 c31 hx
  by_cases hnl : s[q] = 10
  · have hc := i_eq hnl rfl
    have HN := Lib.hid hnl
    clear hnl
    go_enter Tryz.func66, Tryz.ntmps66
    go_wp2
    go_quiet (fail)
    go_wp2
    go_ret
    have hcast : ((p : Int) + 1) = ((p + 1 : Nat) : Int) := by omega
    have hL : s.data.toList[off + p]? = some s[q] := by rw [← H.out.q, List.getElem?_eq_getElem (by rw [size_list]; exact hq)]; rfl
    rw [hcast]
    refine ⟨(((((Fr.refl base B R w).drewN nq).setB H.out.hB _).setB H.out.hB _).setB H.out.hB _ |>.setB H.out.hB _ |>.setB H.out.hB _ |>.setB H.out.hB _), .inl ⟨hq, by rw [HN.out]; rfl, ?_⟩⟩
    have hm := fun y1 y2 y3 y4 : Int => H.out.move (p' := p + 1) (fun k hk => by simp only [set_oth _ _ _ _ _ hk]; rfl) ((((((Row.set (w := w.drewN nq) H.out.row 1026 (.int .i64 (p + 1 : Nat))).set 1032 (.int .i64 1)).set 1030 (.int .i64 y1)).set 1029 (.int .i64 y2)).set 1031 (.int .i64 y3)).set 1030 (.int .i64 y4)) ((((((H.out.scn.setPos (p + 1)).setLcl 1).setCol y1).setLine y2).setLll y3).setCol y4) (by
      repeat (refine (set_ne (by decide) _).trans ?_)
      exact H.out.pkc) hp (Nat.le_succ p) (H.out.col.step hL) ⟨by omega, by have := H.out.col.tp_le; omega⟩
    rw [show off + (p + 1) = q + 1 from by have := H.out.q; omega] at hm
    exact hm _ _ _ _
  · have hc : ((s[q].toNat : Int) == 10) = false := f_eq hnl rfl
    clear hnl
    go_enter Tryz.func66, Tryz.ntmps66
    go_wp2
    go_quiet (fail)
    go_wp2
    go_ret
    have hcast : ((p : Int) + 1) = ((p + 1 : Nat) : Int) := by omega
    have hL : s.data.toList[off + p]? = some s[q] := by rw [← H.out.q, List.getElem?_eq_getElem (by rw [size_list]; exact hq)]; rfl
    rw [hcast]
    refine ⟨((((Fr.refl base B R w).drewN nq).setB H.out.hB _).setB H.out.hB _).setB H.out.hB _, .inl ⟨hq, rfl, ?_⟩⟩
    have hm := fun y1 : Int => H.out.move (p' := p + 1) (fun k hk => by simp only [set_oth _ _ _ _ _ hk]; rfl) (((Row.set (w := w.drewN nq) H.out.row 1026 (.int .i64 (p + 1 : Nat))).set 1032 (.int .i64 1)).set 1030 (.int .i64 y1)) (((H.out.scn.setPos (p + 1)).setLcl 1).setCol y1) (by
      repeat (refine (set_ne (by decide) _).trans ?_)
      exact H.out.pkc) hp (Nat.le_succ p) (H.out.col.step hL) ⟨by omega, by have := H.out.col.tp_le; omega⟩
    rw [show off + (p + 1) = q + 1 from by have := H.out.q; omega] at hm
    exact hm _
end Go.Proofs.YtadpeebcombjnaaGreatDoor
