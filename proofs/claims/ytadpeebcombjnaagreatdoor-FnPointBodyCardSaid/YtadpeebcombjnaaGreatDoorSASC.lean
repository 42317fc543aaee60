/- The reference's small functions on words: upper, padded. -/
import Derived.Test.YtadpeebcombjnaaGreatDoorLK
import Derived.Test.YtadpeebcombjnaaGreatDoorPQ4
namespace Go.Proofs.YtadpeebcombjnaaGreatDoor
open Go Go.Proofs Go.RowKit Go.Lib
set_option maxRecDepth 100000
def upB (c : UInt8) : UInt8 := if 97 ≤ (c.toNat : Int) ∧ (c.toNat : Int) ≤ 122 then c - 32 else c
/-- The bytes l lie at the beginning of block g, and may be written. -/
def UB (W : World) (g : Nat) (l : List UInt8) : Prop := ∀ j (h : j < l.length), W.cell? ⟨g, j, none⟩ = some (.int .u8 (l[j].toNat : Int)) ∧ W.frozen? ⟨g, j, none⟩ = false
theorem UB.set {W : World} {g : Nat} {l : List UInt8} (h : UB W g l) {k : Nat} (hk : k < l.length) (c : UInt8) : UB (W.setCell ⟨g, k, none⟩ (.int .u8 (c.toNat : Int))) g (l.set k c) := by
  intro j hj
  rw [List.length_set] at hj
  rw [World.frozen?_setCell, List.getElem_set]
  refine ⟨?_, (h j hj).2⟩
  by_cases hjk : k = j
  · subst hjk
    rw [if_pos rfl, World.cell?_setCell_same W _ _ (h k hk).1]
  · rw [if_neg hjk, World.cell?_setCell_other W _ _ _ (by intro e; injection e with _ e; exact hjk e)]
    exact (h j hj).1
theorem up_sub {c : UInt8} (h : 97 ≤ (c.toNat : Int) ∧ (c.toNat : Int) ≤ 122) : ((upB c).toNat : Int) = (c.toNat : Int) - 97 + 65 := by
  unfold upB
  rw [if_pos h]
  have : (c - 32).toNat = c.toNat - 32 := by
    rw [UInt8.toNat_sub_of_le]
    · rfl
    · rw [UInt8.le_iff_toNat_le]; show 32 ≤ c.toNat; omega
  rw [this]; omega
theorem up_keep {c : UInt8} (h : ¬ (97 ≤ (c.toNat : Int) ∧ (c.toNat : Int) ≤ 122)) : upB c = c := by unfold upB; rw [if_neg h]
/-- The first k bytes in capitals. -/
def upK (l : List UInt8) (k : Nat) : List UInt8 := (l.take k).map upB ++ l.drop k
theorem upK_len (l : List UInt8) (k : Nat) : (upK l k).length = l.length := by unfold upK; simp; omega
theorem upK_get {l : List UInt8} {k : Nat} (h : k < l.length) : (upK l k)[k]'(by rw [upK_len]; exact h) = l[k] := by
  unfold upK
  rw [List.getElem_append_right (by simp; omega)]
  simp
  congr 1
  omega
theorem upK_succ {l : List UInt8} {k : Nat} (h : k < l.length) : upK l (k + 1) = (upK l k).set k (upB l[k]) := by
  have e : (l.take (k + 1)).map upB = (l.take k).map upB ++ [upB l[k]] := by
    rw [List.take_add_one, List.getElem?_eq_getElem h, List.map_append]; rfl
  unfold upK
  rw [e, List.set_append_right _ _ (by simp; omega), show k - ((l.take k).map upB).length = 0 from by simp; omega, List.drop_eq_getElem_cons h, List.set_cons_zero, List.append_assoc]
  rfl
theorem upK_keep {l : List UInt8} {k : Nat} (h : k < l.length) (hu : upB l[k] = l[k]) : upK l (k + 1) = upK l k := by
  rw [upK_succ h, hu]
  have hk' : k < (upK l k).length := by rw [upK_len]; exact h
  have e := @List.set_getElem_self _ (upK l k) k hk'
  rw [upK_get h] at e
  exact e
set_option maxHeartbeats 1000000 in
theorem upper_any (s : ByteArray) (w : World) (hs : s.size ≤ 2100) : Calls Tryz.prog 30 #[.string s] w fun e w' => Below w.heap.size w w' ∧ e = .returned (.string ⟨((By s).map upB).toArray⟩) := by
  have hcv := run_bytes_of_string (P := Tryz.prog) w 9 87 5 s Tryz.underlying9 Tryz.underlying87 Tryz.underlying5
  obtain ⟨cap, hcap⟩ : ∃ cap, grownCap w s.size 0 5 = cap := ⟨_, rfl⟩
  rw [hcap] at hcv
  obtain ⟨g, hg⟩ : ∃ g, w.heap.size = g := ⟨_, rfl⟩
  obtain ⟨C, hC⟩ : ∃ C, bytesRow s cap = C := ⟨_, rfl⟩
  rw [hg, hC] at hcv
  have hCs : s.size ≤ C.size := by rw [← hC]; unfold bytesRow; simp
  have hCk : ∀ k (h : k < s.size), C[k]? = some (.int .u8 (s[k].toNat : Int)) := by
    intro k h
    rw [← hC]
    unfold bytesRow
    rw [Array.getElem?_append_left (by simp; exact h)]
    simp [Array.getElem?_eq_getElem (show k < s.data.size from h)]
    rfl
  have hheap : (w.drew.alloc (.cells C 5 (C.size, C.size + 1))).heap[g]? = some (.cells C 5 (C.size, C.size + 1)) := by
    rw [← hg]; exact Go.heap_alloc_new w.drew _
  have hub : UB (w.drew.alloc (.cells C 5 (C.size, C.size + 1))) g (upK (By s) 0) := by
    intro j hj
    rw [upK_len, size_list] at hj
    have e : (upK (By s) 0)[j]'(by rw [upK_len, size_list]; exact hj) = s[j] := by unfold upK; rfl
    rw [e]
    constructor
    · rw [cell_of_row _ g j C 5 _ hheap]; exact hCk j hj
    · unfold World.frozen?
      simp only [hheap]
      simp; omega
  have hbl : Below g w (w.drew.alloc (.cells C 5 (C.size, C.size + 1))) := by
    have h := (⟨rfl, rfl, rfl, Nat.le_refl _, fun _ _ => rfl⟩ : Below g w w.drew).alloc (show g ≤ w.drew.heap.size by rw [← hg]; exact Nat.le_refl _) (.cells C 5 (C.size, C.size + 1))
    exact h
  have HUB : Hid (UB (w.alloc (.cells C 5 (C.size, C.size + 1))).drew g (upK (By s) 0)) := Lib.hid hub
  have HBL : Hid (Below g w (w.alloc (.cells C 5 (C.size, C.size + 1))).drew) := Lib.hid hbl
  have HG := Lib.hid hg
  clear hC hCk hheap hub hbl hcap hg
  go_enter Tryz.func30, Tryz.ntmps30
  go_wp2_with fail
  clear hcv
  generalize (w.alloc (.cells C 5 (C.size, C.size + 1))).drew = W at *
  go_loopg [4, 5, 10] s.size (fun gh i c k wr => ∃ m : Nat, m + gh = s.size ∧ k = .int .i64 m ∧ Hid (UB wr g (upK (By s) m)) ∧ Hid (Below g w wr))
  case atStart => exact ⟨0, by omega, rfl, HUB, HBL⟩
  case round =>
    obtain ⟨m, hm, rfl, HU, HB⟩ := hrel
    by_cases hlt : m < s.size
    · have hl : m < (By s).length := by rw [size_list]; exact hlt
      have hc := (HU.out m (by rw [upK_len]; exact hl)).1
      have hf := (HU.out m (by rw [upK_len]; exact hl)).2
      rw [upK_get hl] at hc
      have hgl : (By s)[m] = s[m] := rfl
      rw [hgl] at hc
      have HK := Lib.hid (upK_succ hl)
      have HGL := Lib.hid hgl
      clear hgl
      obtain ⟨b, hb⟩ : ∃ b, s[m] = b := ⟨_, rfl⟩
      rw [hb] at hc
      have HBb := Lib.hid hb
      clear hb
      by_cases h1 : 97 ≤ (b.toNat : Int)
      · by_cases h2 : (b.toNat : Int) ≤ 122
        · have HS := Lib.hid (up_sub ⟨h1, h2⟩)
          go_wp2_with fail
          go_roundg (s.size - (m + 1))
          case measure => omega
          case rel =>
            refine ⟨m + 1, by omega, by go_num, Lib.hid ?_, Lib.hid (HB.out.setCell (p := ⟨g, m, none⟩) (Nat.le_refl g) _)⟩
            rw [HK.out, HGL.out, HBb.out]
            have h := HU.out.set (by rw [upK_len]; exact hl) (upB b)
            rw [HS.out] at h
            exact h
        · have HS := Lib.hid (up_keep (c := b) (fun h => h2 h.2))
          go_wp2_with fail
          go_roundg (s.size - (m + 1))
          case measure => omega
          case rel =>
            refine ⟨m + 1, by omega, by go_num, Lib.hid ?_, HB⟩
            have e := upK_keep hl (by rw [HGL.out, HBb.out, HS.out])
            rw [e]
            exact HU.out
      · have HS := Lib.hid (up_keep (c := b) (fun h => h1 h.1))
        go_wp2_with fail
        go_roundg (s.size - (m + 1))
        case measure => omega
        case rel =>
          refine ⟨m + 1, by omega, by go_num, Lib.hid ?_, HB⟩
          have e := upK_keep hl (by rw [HGL.out, HBb.out, HS.out])
          rw [e]
          exact HU.out
    · obtain rfl : m = s.size := by omega
      have hall : upK (By s) s.size = (By s).map upB := by
        unfold upK
        rw [List.take_of_length_le (by rw [size_list]; exact Nat.le_refl _), List.drop_eq_nil_of_le (by rw [size_list]; exact Nat.le_refl _), List.append_nil]
      have hlen : ((By s).map upB).length = s.size := by rw [List.length_map, size_list]
      have hcv := run_convert_bytes_back (P := Tryz.prog) wr 87 9 5 ⟨g, 0, none⟩ cap ((By s).map upB) Tryz.underlying87 Tryz.underlying5 Tryz.underlying9 (fun j hj => by
        have e1 : (⟨g, 0, none⟩ : Addr).add j = ⟨g, j, none⟩ := by unfold Addr.add; split <;> simp_all
        rw [e1]
        have h := (HU.out j (by rw [hall]; exact hj)).1
        rw [h]
        congr 3
        simp only [hall])
      rw [hlen] at hcv
      go_wp2_with fail
      go_ret
      exact ⟨by rw [HG.out]; exact HB.out, rfl⟩
end Go.Proofs.YtadpeebcombjnaaGreatDoor
namespace Go.Proofs.YtadpeebcombjnaaGreatDoor
open Go Go.Proofs Go.RowKit Go.Lib
set_option maxRecDepth 100000
def PadPost (s : ByteArray) (w : World) (e : Ending) (w' : World) : Prop := w = w' ∧ ∃ b, e = .returned (.bool b) ∧ (b = false → ∀ r, By s = 48 :: r → digN r = 0)
set_option maxHeartbeats 4000000 in
theorem padded_any (s : ByteArray) (w : World) (hs : s.size ≤ 2100) (hd : decN (By s) = (By s).length) : Calls Tryz.prog 31 #[.string s] w (PadPost s w) := by
  have hml : s.size ≤ maxLen := by unfold maxLen; omega
  have hdig := fun wx => digits_from s 1 wx hml
  have hde : ∀ m (h : m < s.size), (s[m] = 101 ∨ s[m] = 69) → ∃ h1 : m + 1 < s.size, (s[m + 1] = 43 ∨ s[m + 1] = 45) → m + 2 < s.size := by
    intro m h he
    obtain ⟨_, h1, h2⟩ := dec_e hd (i := m) (by rw [size_list]; exact h) he
    have h1' : m + 1 < s.size := by rw [size_list] at h1; exact h1
    refine ⟨h1', fun hs => ?_⟩
    have := h2 h1 hs
    rw [size_list] at this
    exact this
  clear hd
  by_cases h1 : 1 < s.size
  · have hcons : By s = s[0] :: (By s).drop 1 := by have := drop_list s 0 (by omega); simpa using this
    by_cases h48 : s[0] = 48
    · have hb : ((s[0].toNat : Int) == 48) = true := t_eq h48 rfl
      by_cases hp : 0 < digN ((By s).drop 1)
      · clear hde hcons
        obtain ⟨q, hq⟩ : ∃ q, digN (s.data.toList.drop 1) = q := ⟨_, rfl⟩
        rw [hq] at hdig
        have hpi : (0 : Int) < (q : Int) := by have h : 0 < digN (s.data.toList.drop 1) := hp; omega
        clear hp hq
        go_enter Tryz.func31, Tryz.ntmps31
        go_wp2_with (go_at_call 48; refine (hdig _).mono ?_; rintro _ _ ⟨rfl, rfl⟩)
        go_ret
        exact ⟨rfl, _, rfl, fun h => absurd h (by decide)⟩
      · have HC : Hid (∀ r, By s = 48 :: r → digN r = 0) := Lib.hid (fun r h => by
          rw [hcons] at h
          injection h with _ h
          rw [← h]; omega)
        have hz : digN ((By s).drop 1) = 0 := by omega
        have hz' : digN (s.data.toList.drop 1) = 0 := hz
        rw [hz'] at hdig
        clear hcons hz hz' hp
        go_enter Tryz.func31, Tryz.ntmps31
        go_wp2_with (go_at_call 48; refine (hdig _).mono ?_; rintro _ _ ⟨rfl, rfl⟩)
        go_loop [3, 21] (fun i k => ∃ m : Nat, m ≤ s.size ∧ k = .int .i64 m) (fun i k => s.size - (RowKit.intOf k).toNat)
        case atStart => exact ⟨0, Nat.zero_le _, rfl⟩
        case round =>
          obtain ⟨m, hm, rfl⟩ := hrel
          by_cases hlt : m < s.size
          · by_cases he : s[m] = 101 ∨ s[m] = 69
            · obtain ⟨hlt1, hs2⟩ := hde m hlt he
              have hs2' : (s[m + 1] = 43 ∨ s[m + 1] = 45) → m + 2 < s.size := hs2
              have hev : ((s[m].toNat : Int) == 101) = true ∨ (((s[m].toNat : Int) == 101) = false ∧ ((s[m].toNat : Int) == 69) = true) := by
                by_cases h3 : s[m] = 101
                · exact .inl (t_eq h3 rfl)
                · exact .inr ⟨f_eq h3 rfl, t_eq (he.resolve_left h3) rfl⟩
              clear he hs2
              by_cases hsg : s[m + 1] = 43 ∨ s[m + 1] = 45
              · have hlt2 := hs2' hsg
                have hsv : ((s[m + 1].toNat : Int) == 43) = true ∨ (((s[m + 1].toNat : Int) == 43) = false ∧ ((s[m + 1].toNat : Int) == 45) = true) := by
                  by_cases h3 : s[m + 1] = 43
                  · exact .inl (t_eq h3 rfl)
                  · exact .inr ⟨f_eq h3 rfl, t_eq (hsg.resolve_left h3) rfl⟩
                clear hsg hs2'
                rcases hev with e1 | ⟨e1, e2⟩ <;> rcases hsv with f1 | ⟨f1, f2⟩ <;> cases h0 : ((s[m + 1 + 1].toNat : Int) == 48)
                all_goals
                  go_wp2
                  go_ret
                  exact ⟨rfl, _, rfl, fun _ => HC.out⟩
              · have f1 : ((s[m + 1].toNat : Int) == 43) = false := f_eq (fun h => hsg (.inl h)) rfl
                have f2 : ((s[m + 1].toNat : Int) == 45) = false := f_eq (fun h => hsg (.inr h)) rfl
                clear hsg hs2'
                rcases hev with e1 | ⟨e1, e2⟩ <;> cases h0 : ((s[m + 1].toNat : Int) == 48)
                all_goals
                  go_wp2
                  go_ret
                  exact ⟨rfl, _, rfl, fun _ => HC.out⟩
            · have e1 : ((s[m].toNat : Int) == 101) = false := f_eq (fun h => he (.inl h)) rfl
              have e2 : ((s[m].toNat : Int) == 69) = false := f_eq (fun h => he (.inr h)) rfl
              clear he
              go_wp2
              go_round
              case rel => exact ⟨m + 1, by omega, by go_num⟩
              case measure => simp [RowKit.intOf]; omega
          · go_wp2
            go_ret
            exact ⟨rfl, _, rfl, fun _ => HC.out⟩
    · have hb : ((s[0].toNat : Int) == 48) = false := f_eq h48 rfl
      have HC : Hid (∀ r, By s = 48 :: r → digN r = 0) := Lib.hid (fun r h => by
        rw [hcons] at h
        injection h with h _
        exact absurd h h48)
      clear hcons h48
      go_enter Tryz.func31, Tryz.ntmps31
      go_wp2_with fail
      go_loop [3, 21] (fun i k => ∃ m : Nat, m ≤ s.size ∧ k = .int .i64 m) (fun i k => s.size - (RowKit.intOf k).toNat)
      case atStart => exact ⟨0, Nat.zero_le _, rfl⟩
      case round =>
        obtain ⟨m, hm, rfl⟩ := hrel
        by_cases hlt : m < s.size
        · by_cases he : s[m] = 101 ∨ s[m] = 69
          · obtain ⟨hlt1, hs2⟩ := hde m hlt he
            have hs2' : (s[m + 1] = 43 ∨ s[m + 1] = 45) → m + 2 < s.size := hs2
            have hev : ((s[m].toNat : Int) == 101) = true ∨ (((s[m].toNat : Int) == 101) = false ∧ ((s[m].toNat : Int) == 69) = true) := by
              by_cases h3 : s[m] = 101
              · exact .inl (t_eq h3 rfl)
              · exact .inr ⟨f_eq h3 rfl, t_eq (he.resolve_left h3) rfl⟩
            clear he hs2
            by_cases hsg : s[m + 1] = 43 ∨ s[m + 1] = 45
            · have hlt2 := hs2' hsg
              have hsv : ((s[m + 1].toNat : Int) == 43) = true ∨ (((s[m + 1].toNat : Int) == 43) = false ∧ ((s[m + 1].toNat : Int) == 45) = true) := by
                by_cases h3 : s[m + 1] = 43
                · exact .inl (t_eq h3 rfl)
                · exact .inr ⟨f_eq h3 rfl, t_eq (hsg.resolve_left h3) rfl⟩
              clear hsg hs2'
              rcases hev with e1 | ⟨e1, e2⟩ <;> rcases hsv with f1 | ⟨f1, f2⟩ <;> cases h0 : ((s[m + 1 + 1].toNat : Int) == 48)
              all_goals
                go_wp2
                go_ret
                exact ⟨rfl, _, rfl, fun _ => HC.out⟩
            · have f1 : ((s[m + 1].toNat : Int) == 43) = false := f_eq (fun h => hsg (.inl h)) rfl
              have f2 : ((s[m + 1].toNat : Int) == 45) = false := f_eq (fun h => hsg (.inr h)) rfl
              clear hsg hs2'
              rcases hev with e1 | ⟨e1, e2⟩ <;> cases h0 : ((s[m + 1].toNat : Int) == 48)
              all_goals
                go_wp2
                go_ret
                exact ⟨rfl, _, rfl, fun _ => HC.out⟩
          · have e1 : ((s[m].toNat : Int) == 101) = false := f_eq (fun h => he (.inl h)) rfl
            have e2 : ((s[m].toNat : Int) == 69) = false := f_eq (fun h => he (.inr h)) rfl
            clear he
            go_wp2
            go_round
            case rel => exact ⟨m + 1, by omega, by go_num⟩
            case measure => simp [RowKit.intOf]; omega
        · go_wp2
          go_ret
          exact ⟨rfl, _, rfl, fun _ => HC.out⟩
  · have HC : Hid (∀ r, By s = 48 :: r → digN r = 0) := Lib.hid (fun r h => by
      have := congrArg List.length h
      rw [size_list, List.length_cons] at this
      have : r = [] := List.length_eq_zero_iff.1 (by omega)
      rw [this]; rfl)
    go_enter Tryz.func31, Tryz.ntmps31
    go_wp2_with fail
    go_loop [3, 21] (fun i k => ∃ m : Nat, m ≤ s.size ∧ k = .int .i64 m) (fun i k => s.size - (RowKit.intOf k).toNat)
    case atStart => exact ⟨0, Nat.zero_le _, rfl⟩
    case round =>
      obtain ⟨m, hm, rfl⟩ := hrel
      by_cases hlt : m < s.size
      · by_cases he : s[m] = 101 ∨ s[m] = 69
        · obtain ⟨hlt1, _⟩ := hde m hlt he
          exact absurd hlt1 (by omega)
        · have e1 : ((s[m].toNat : Int) == 101) = false := f_eq (fun h => he (.inl h)) rfl
          have e2 : ((s[m].toNat : Int) == 69) = false := f_eq (fun h => he (.inr h)) rfl
          clear he
          go_wp2
          go_round
          case rel => exact ⟨m + 1, by omega, by go_num⟩
          case measure => simp [RowKit.intOf]; omega
      · go_wp2
        go_ret
        exact ⟨rfl, _, rfl, fun _ => HC.out⟩
end Go.Proofs.YtadpeebcombjnaaGreatDoor
namespace Go.Proofs.YtadpeebcombjnaaGreatDoor
open Go Go.Proofs Go.RowKit Go.Lib
set_option maxRecDepth 100000
theorem slice_of_own {w : World} {B n size : Nat} {e : TypeId} {v : Value} {xs : List Value} (h : w.ownsRow B e size v n xs) : (v = .slice none 0 0 ∧ n = 0) ∨ ∃ g c, v = .slice (some ⟨g, 0, none⟩) n c ∧ B ≤ g ∧ g < w.heap.size := by
  rcases h.2 with h | ⟨g, cap, cur, rfl, hB, hh, _⟩
  · exact .inl h
  · exact .inr ⟨g, cap, rfl, hB, lt_of_row hh⟩
theorem tokCells_get (ts : List Tok) (k : Nat) (h : k < ts.length) : (tokCells ts)[2 * k]? = some (.int .u8 ts[k].1.toNat) ∧ (tokCells ts)[2 * k + 1]? = some (.string ⟨ts[k].2.toArray⟩) := by
  induction ts generalizing k with
  | nil => simp at h
  | cons t ts ih =>
    have e : tokCells (t :: ts) = .int .u8 t.1.toNat :: .string ⟨t.2.toArray⟩ :: tokCells ts := by simp [tokCells]
    rw [e]
    cases k with
    | zero => exact ⟨rfl, rfl⟩
    | succ k =>
      have := ih k (by simpa using h)
      rw [show 2 * (k + 1) = 2 * k + 1 + 1 from by omega]
      exact this
/-- What AskedWKT tells of the tokens. -/
def Asked (ts : List Tok) : Prop := ∀ t ∈ ts, t.1 = 49 → ∀ r, t.2 = 48 :: r → digN r = 0
def AskPost (s : ByteArray) (w : World) (e : Ending) (w' : World) : Prop := Below w.heap.size w w' ∧ ∃ b, e = .returned (.bool b) ∧ (b = true → ∃ ts, toksAt (By s) false = some ts ∧ Asked ts)
theorem own_below {w w' : World} {B N n size : Nat} {e : TypeId} {v : Value} {xs : List Value} (h : w.ownsRow B e size v n xs) (hb : Below N w w') (hN : w.heap.size ≤ N) : w'.ownsRow B e size v n xs := by
  obtain ⟨e1, e2⟩ := h
  refine ⟨e1, ?_⟩
  rcases e2 with e2 | ⟨g, cap, cur, hv, hgB, hh, r⟩
  · exact .inl e2
  · exact .inr ⟨g, cap, cur, hv, hgB, (hb.block g (by have := lt_of_row hh; omega)).trans hh, r⟩
set_option maxHeartbeats 4000000 in
theorem asked_any (s : ByteArray) (w : World) (hs : s.size ≤ 2000) : Calls Tryz.prog 17 #[.string s] w (AskPost s w) := by
  go_enter Tryz.func17, Tryz.ntmps17
  go_wp2_with fail
  go_at_call 19
  refine (tokens_any s w (by omega)).mono ?_
  rintro e w1 ⟨hb, ⟨hn, rfl⟩ | ⟨ts, v, hts, rfl, hlen, hown⟩⟩
  · have HB := Lib.hid hb
    clear hb hn
    go_wp2_with fail
    refine wp_loop_rounds 1 ?_
    rw [rounds_succ]
    go_wp2_with fail
    go_ret
    exact ⟨HB.out, _, rfl, fun h => absurd h (by decide)⟩
  · have hlen2 : ts.length ≤ 2000 := by rw [size_list] at hlen; omega
    rcases slice_of_own hown with ⟨rfl, h0⟩ | ⟨g, c, rfl, hgB, hgs⟩
    · have HB := Lib.hid hb
      have HT := Lib.hid hts
      have H0 := Lib.hid h0
      clear hb hts hown h0
      go_wp2_with fail
      refine wp_loop_rounds 1 ?_
      rw [rounds_succ]
      go_wp2_with fail
      go_ret
      exact ⟨HB.out, _, rfl, fun _ => ⟨ts, HT.out, fun t ht => by rw [List.length_eq_zero_iff.1 H0.out] at ht; exact absurd ht (by simp)⟩⟩
    · have hgood := good_of _ _ false ts (Nat.le_refl _) hts
      have htl := tok_len _ _ false ts (Nat.le_refl _) hts
      have HB := Lib.hid hb
      have HO := Lib.hid hown
      have HT := Lib.hid hts
      have HGD := Lib.hid hgood
      have HTL : Hid (∀ t ∈ ts, t.2.length ≤ 2000) := Lib.hid (fun t ht => by have := htl t ht; rw [size_list] at this; omega)
      have hgw := hgs
      clear hb hown hts hlen hgood htl
      go_wp2_with fail
      go_loopg [6, 7, 15] ts.length (fun gh a u k wr => ∃ m : Nat, m + gh = ts.length ∧ k = .int .i64 m ∧ Hid (Below w.heap.size w wr) ∧ Hid (wr.ownsRow w.heap.size 73 2 (.slice (some ⟨g, 0, none⟩) ts.length c) ts.length (tokCells ts)) ∧ Hid (∀ j (h : j < ts.length), j < m → ts[j].1 = 49 → ∀ r, ts[j].2 = 48 :: r → digN r = 0))
      case atStart => exact ⟨0, by omega, rfl, HB, HO, Lib.hid (fun j _ h => by omega)⟩
      case round =>
        obtain ⟨m, hm, rfl, HB2, HO2, HQ⟩ := hrel
        by_cases hlt : m < ts.length
        · obtain ⟨g0, g1⟩ := tokCells_get ts m hlt
          have c0 := (HO2.out.cellAt (2 * m) (by omega)).trans g0
          have c1 := (HO2.out.cellAt (2 * m + 1) (by omega)).trans g1
          rw [show 2 * m = m * 2 from Nat.mul_comm ..] at c0 c1
          have cf := HO2.out.frozenAt
          obtain ⟨t, htm⟩ : ∃ t, ts[m] = t := ⟨_, rfl⟩
          rw [htm] at c0 c1
          have hmem : t ∈ ts := htm ▸ List.getElem_mem hlt
          have HGT := Lib.hid (HGD.out t hmem)
          have hl2 := HTL.out t hmem
          have HTM := Lib.hid htm
          obtain ⟨tk, tl⟩ := t
          have hl2 : tl.length ≤ 2000 := hl2
          clear g0 g1 htm hmem
          obtain ⟨P, hP⟩ : ∃ P, wr.heap.size = P := ⟨_, rfl⟩
          have hPg : w.heap.size ≤ P := by have := HB2.out.size; omega
          have hrP : Row (wr.alloc (.cells #[.int .u8 tk.toNat, .string ⟨tl.toArray⟩] 73)) P #[.int .u8 tk.toNat, .string ⟨tl.toArray⟩] 73 := hP ▸ Row.new wr _ 73
          have p0 : (wr.alloc (.cells #[.int .u8 tk.toNat, .string ⟨tl.toArray⟩] 73)).cell? ⟨P, 0, none⟩ = some (.int .u8 tk.toNat) := hrP.cell rfl
          have p1 : (wr.alloc (.cells #[.int .u8 tk.toNat, .string ⟨tl.toArray⟩] 73)).cell? ⟨P, 1, none⟩ = some (.string ⟨tl.toArray⟩) := hrP.cell rfl
          have pf := hrP.frozen
          have hsW : (wr.alloc (.cells #[.int .u8 tk.toNat, .string ⟨tl.toArray⟩] 73)).heap.size = P + 1 := by simp [hP]
          have hbW : Below w.heap.size w (wr.alloc (.cells #[.int .u8 tk.toNat, .string ⟨tl.toArray⟩] 73)) := HB2.out.alloc (by omega) _
          have hoW := own_below HO2.out ((Below.refl P wr).alloc (by omega) (.cells #[.int .u8 tk.toNat, .string ⟨tl.toArray⟩] 73)) (by omega)
          have H := Lib.hid (And.intro hrP (And.intro hsW (And.intro hbW hoW)))
          obtain ⟨ub, hub⟩ : ∃ ub, (By ⟨tl.toArray⟩).map upB = ub := ⟨_, rfl⟩
          have hup := upper_any ⟨tl.toArray⟩ (wr.alloc (.cells #[.int .u8 tk.toNat, .string ⟨tl.toArray⟩] 73)) (by show tl.toArray.size ≤ 2100; simp; omega)
          rw [hub] at hup
          clear hrP hsW hbW hoW hub
          go_wp2_with fail
          go_at_call 30
          refine hup.mono ?_
          rintro e w2 ⟨hb2, rfl⟩
          obtain ⟨hrP, hsW, hbW, hoW⟩ := H.out
          rw [hsW] at hb2
          have hrP2 := low_row hb2 (by omega) hrP
          have q0 : w2.cell? ⟨P, 0, none⟩ = some (.int .u8 tk.toNat) := hrP2.cell rfl
          have q1 : w2.cell? ⟨P, 1, none⟩ = some (.string ⟨tl.toArray⟩) := hrP2.cell rfl
          have HB3 : Hid (Below w.heap.size w w2) := Lib.hid (hbW.trans ⟨hb2.os, hb2.tape, hb2.output, hb2.size, fun k hk => hb2.block k (by omega)⟩)
          have HO3 := Lib.hid (own_below hoW hb2 (by omega))
          clear hup H hrP hsW hbW hoW hrP2 hb2 p0 p1 pf c0 c1 cf
          have hw : (ub == tl) = true ∨ ((ub == tl) = false ∧ ((ub == [69, 77, 80, 84, 89]) = true ∨ ((ub == [69, 77, 80, 84, 89]) = false ∧ ((ub == [90]) = true ∨ ((ub == [90]) = false ∧ ((ub == [77]) = true ∨ ((ub == [77]) = false ∧ ((ub == [90, 77]) = true ∨ (ub == [90, 77]) = false)))))))) := by
            cases ub == tl <;> cases ub == [69, 77, 80, 84, 89] <;> cases ub == [90] <;> cases ub == [77] <;> cases ub == [90, 77] <;> simp
          by_cases hk : tk = 49
          · have hdec : decN tl = tl.length := by
              have h := HGT.out
              rw [hk] at h
              cases h with
              | num _ h _ => exact h
              | sign h => exact absurd h (by decide)
            have e49 : ((tk.toNat : Int) == 49) = true := t_eq hk rfl
            have hpad := fun wx => padded_any ⟨tl.toArray⟩ wx (by show tl.toArray.size ≤ 2100; simp; omega) (by show decN tl = tl.length; exact hdec)
            have HK := Lib.hid hk
            clear hdec hk
            cases hbv : True.intro
            go_upto_region 6 with (fail)
            rcases hw with z1 | ⟨z1, z2 | ⟨z2, z3 | ⟨z3, z4 | ⟨z4, z5 | z5⟩⟩⟩⟩
            all_goals
              go_upto_if 51 with ((go_at_call 31; refine (hpad _).mono ?_; rintro e w3 ⟨rfl, bb, rfl, hbb⟩; have HBB := Lib.hid hbb; clear hbb; cases bb))
            all_goals
              go_wp2_with fail
              first
              | (go_ret
                 exact ⟨HB3.out, _, rfl, fun h => absurd h (by decide)⟩)
              | (go_roundg (ts.length - (m + 1))
                 case measure => omega
                 case rel => exact ⟨m + 1, by omega, by go_num, HB3, HO3, Lib.hid (fun j h hj hk r hr => by
                   rcases Nat.lt_or_ge j m with hjm | hjm
                   · exact HQ.out j h hjm hk r hr
                   · obtain rfl : j = m := by omega
                     rw [HTM.out] at hr
                     exact HBB.out (by first | rfl | trivial) r hr)⟩)
          · have e49 : ((tk.toNat : Int) == 49) = false := f_eq hk rfl
            have HK := Lib.hid hk
            clear hk
            rcases hw with z1 | ⟨z1, z2 | ⟨z2, z3 | ⟨z3, z4 | ⟨z4, z5 | z5⟩⟩⟩⟩
            all_goals
              go_wp2_with fail
              first
              | (go_ret
                 exact ⟨HB3.out, _, rfl, fun h => absurd h (by decide)⟩)
              | (go_roundg (ts.length - (m + 1))
                 case measure => omega
                 case rel => exact ⟨m + 1, by omega, by go_num, HB3, HO3, Lib.hid (fun j h hj hk r hr => by
                   rcases Nat.lt_or_ge j m with hjm | hjm
                   · exact HQ.out j h hjm hk r hr
                   · obtain rfl : j = m := by omega
                     rw [HTM.out] at hk
                     exact absurd hk HK.out)⟩)
        · obtain rfl : m = ts.length := by omega
          go_wp2_with fail
          go_ret
          refine ⟨HB2.out, _, rfl, fun _ => ⟨ts, HT.out, fun t ht h => ?_⟩⟩
          obtain ⟨j, hj, rfl⟩ := List.mem_iff_getElem.1 ht
          exact HQ.out j hj hj h
end Go.Proofs.YtadpeebcombjnaaGreatDoor
