/- strconv.Quote of printable ASCII without the quote and the backslash. -/
import Derived.Test.YtadpeebcombjnaaGreatDoorHB
import Derived.Test.YtadpeebcombjnaaGreatDoorEGEH
import Derived.Lib.BufSteps
import Derived.Laws.BytesArg
import Derived.OwnWalk
namespace Go.Proofs.YtadpeebcombjnaaGreatDoor
open Go Go.Proofs Go.RowKit Go.Lib
set_option maxRecDepth 100000
theorem info5q : ∃ i0, Tryz.prog.info? 5 = some i0 ∧ i0.zero = some (.int .u8 0) ∧ i0.size = 1 ∧ i0.bytes = 1 := by
  have h : (Tryz.prog.info? 5).map (fun i => (i.zero, i.size, i.bytes)) = some (some (.int .u8 0), 1, 1) := by kernel_rfl
  exact info_parts h
/-- A rune that is printed as it is. -/
def Pr (r : Int) : Prop := 32 ≤ r ∧ r ≤ 126 ∧ r ≠ 34 ∧ r ≠ 92
set_option maxHeartbeats 4000000 in
theorem esc_any {B : Nat} {v : Value} {n : Nat} {xs : List Value} {r : Int} {W0 w : World} (hb : OwnBuf B 5 v n xs W0 w) (hlen : n + 10 ≤ 140737488355328) (hr : Pr r) :
    Calls Tryz.prog 187 #[v, .int .i32 r, .int .u8 34, .bool false, .bool false] w fun e w' => ∃ v', e = .returned v' ∧ OwnBuf B 5 v' (n + 1) (xs ++ [.int .u8 r]) W0 w' := by
  obtain ⟨h0, h1, hq1, hq2⟩ := hr
  have hc : runeCells r = [.int .u8 r] := by unfold runeCells; rw [encodeRuneZ_one (by omega) (by omega)]; rfl
  have hp : isPrintLatin r = true := by
    unfold isPrintLatin
    rw [decide_eq_true (by omega : 32 ≤ r), decide_eq_true (by omega : r ≤ 126)]
    rfl
  have cP : Calls Tryz.prog 189 #[.int .i32 r] w fun e w' => e = .returned (.bool true) ∧ w' = w := by
    rw [← hp]; exact Tryz.strconv_IsPrint_latin r w (by omega)
  have cA : Calls Tryz.prog 191 #[v, .int .i32 r] w fun e w' => ∃ v', e = .returned v' ∧ OwnBuf B 5 v' (n + 1) (xs ++ [.int .u8 r]) W0 w' :=
    (Tryz.utf8_AppendRune_row B v n xs r (by omega) (by omega) w hb.1 (by omega) hb.2.2).mono fun e w' ⟨v', h1, h2, o, h3⟩ => ⟨v', h1, by rw [hc] at h2; exact (hb.alloc o).grown h2 h3⟩
  have q1 : (r == 34) = false := by rw [beq_eq_false_iff_ne]; exact hq1
  have q2 : (r == 92) = false := by rw [beq_eq_false_iff_ne]; exact hq2
  clear hc hp hb hlen h0 h1
  go_enter Tryz.func187, Tryz.ntmps187
  go_wp2_with fail
  refine cP.mono ?_
  rintro e w1 ⟨rfl, rfl⟩
  go_wp2_with fail
  refine cA.mono ?_
  rintro e w2 ⟨v2, rfl, hb2⟩
  go_wp2_with fail
  go_ret
  exact ⟨_, rfl, hb2⟩
theorem estr_any {b o : Nat} {x : ByteArray} {w : World} (h : w.cell? ⟨b, o, none⟩ = some (.string x)) : Calls Tryz.prog 196 #[.pointer (some ⟨b, o, none⟩)] w fun e w' => e = .returned (.string x) ∧ Below w.heap.size w w' := by
  go_enter Tryz.func196, Tryz.ntmps196
  go_wp2_with fail
  go_ret
  exact ⟨rfl, Below.refl _ _⟩
/-- The bytes as numbers. -/
def bz (l : List UInt8) : List Int := l.map fun b => (b.toNat : Int)
/-- The quoted text. -/
def qz (l : List UInt8) : List Int := 34 :: (bz l ++ [34])
theorem rest_one {r : ByteArray} (h : 0 < r.size) : ∃ c, r.data.toList[0]? = some c ∧ By r = c :: By (r.extract 1 r.size) ∧ (r.extract 1 r.size).size = r.size - 1 := by
  obtain ⟨⟨l⟩⟩ := r
  cases l with
  | nil => exact absurd h (by decide)
  | cons c t =>
    refine ⟨c, rfl, ?_, by simp [ByteArray.size_extract]⟩
    show c :: t = c :: ((ByteArray.mk (Array.mk (c :: t))).extract 1 _).data.toList
    rw [ByteArray.data_extract, Array.toList_extract]
    simp [ByteArray.size, List.extract]
set_option maxHeartbeats 4000000 in
theorem quoted_any {a : Option Addr} {n c : Nat} {xs : List Value} {s : ByteArray} {W0 w : World} (hb : OwnBuf W0.heap.size 5 (.slice a n c) n xs W0 w) (hroom : n + s.size ≤ c) (hc : c ≤ 9223372036854775807) (hlen : n + s.size + 20 ≤ 140737488355328) (hp : ∀ b ∈ By s, Pr b.toNat) :
    Calls Tryz.prog 185 #[.slice a n c, .string s, .int .u8 34, .bool false, .bool false] w fun e w' => ∃ v', e = .returned v' ∧ OwnBuf W0.heap.size 5 v' (n + (qz (By s)).length) (xs ++ intCells (qz (By s))) W0 w' := by
  obtain ⟨i0, hi, hz0, hz1, hz2⟩ := info5q
  obtain ⟨B, hB⟩ : ∃ B, B = W0.heap.size := ⟨_, rfl⟩
  rw [← hB] at hb ⊢
  clear hB
  have hwc : wrap64 ((c : Int) - (n : Int)) = (c : Int) - (n : Int) := by unfold wrap64; omega
  have hroom' : decide ((c : Int) - (n : Int) < (s.size : Int)) = false := decide_eq_false (by omega)
  have HP := Lib.hid hp
  clear hp
  go_enter Tryz.func185, Tryz.ntmps185
  go_wp2_with (at_builtin; (refine Lib.wpList_append_byte rfl _ _ 87 rfl B 5 i0 Tryz.underlying87 hi hz0 hz1 hz2 _ _ _ rfl W0 _ _ (by assumption) rfl (by omega) ?_; intro _ _ hb))
  have Hb0 := Lib.hid hb
  go_loopw [0, 1, 12, 13] (fun vb vs _ _ wr => ∃ (rest : ByteArray) (acc : List Int), vs = .string rest ∧ Hid (OwnBuf B 5 vb (n + 1 + acc.length) (xs ++ [.int .u8 34] ++ intCells acc) W0 wr) ∧ Hid (acc ++ bz (By rest) = bz (By s)) ∧ acc.length + rest.size = s.size ∧ Hid (∀ b ∈ By rest, Pr b.toNat))
    (fun _ vs _ _ _ => match vs with | .string r => r.size | _ => 0)
  case atStart => exact ⟨s, [], rfl, by simpa [Hid, intCells] using hb, rfl, by simp, HP⟩
  case round =>
    obtain ⟨rest, acc, rfl, hbr, hq, hl, hpr⟩ := hrel
    have hlenA : n + 1 + acc.length + 10 ≤ 140737488355328 := by omega
    by_cases h0 : 0 < rest.size
    · obtain ⟨x, hx0, hx1, hx2⟩ := rest_one h0
      have hPx : Pr x.toNat := hpr.out x (by rw [hx1]; exact List.mem_cons_self)
      have cD := Tryz.utf8_DecodeRuneInString_ascii rest x wr hx0 (by have := hPx.2.1; omega)
      have cE := esc_any hbr.out hlenA hPx
      have HX := Lib.hid hx1
      have HQ := Lib.hid hPx
      have h0b : decide ((rest.size : Int) > 0) = true := decide_eq_true (by omega)
      have hxb : ((x.toNat : Int) == 65533) = false := by rw [beq_eq_false_iff_ne]; have := hPx.2.1; omega
      clear hx0 hx1 hPx
      go_wp2_with fail
      refine cD.mono ?_
      rintro e w1 ⟨rfl, rfl⟩
      go_wp2_with fail
      refine cE.mono ?_
      rintro e w2 ⟨v2, rfl, hb2⟩
      go_wp2_with fail
      go_roundw
      case rel =>
        refine ⟨_, acc ++ [(x.toNat : Int)], rfl, ?_, ?_, ?_, ?_⟩
        · simpa [Hid, intCells, List.append_assoc, Nat.add_assoc] using hb2
        · have hq2 := hq.out
          rw [HX.out] at hq2
          rw [Hid, ← hq2]
          simp [bz]
        · rw [hx2, List.length_append, List.length_singleton]; omega
        · intro b hb
          exact hpr.out b (by rw [HX.out]; exact List.mem_cons_of_mem _ hb)
      case measure => simp only []; omega
    · have h0b : decide ((rest.size : Int) > 0) = false := decide_eq_false (by omega)
      have hbx := hbr.out
      go_wp2_with (at_builtin; (refine Lib.wpList_append_byte rfl _ _ 87 rfl B 5 i0 Tryz.underlying87 hi hz0 hz1 hz2 _ _ _ rfl W0 _ _ (by assumption) rfl (by omega) ?_; intro _ _ hb))
      go_ret
      refine ⟨_, rfl, ?_⟩
      have hz : By rest = [] := List.length_eq_zero_iff.1 (by have : (By rest).length = rest.size := rfl; omega)
      have hqe : bz (By s) = acc := by rw [← hq.out, hz]; simp [bz]
      have hlenq : n + (qz (By s)).length = n + 1 + acc.length + 1 := by simp [qz, hqe]; omega
      have hcells : xs ++ intCells (qz (By s)) = xs ++ [.int .u8 34] ++ intCells acc ++ [.int .u8 34] := by simp [qz, hqe, intCells]
      rw [hlenq, hcells]
      assumption
theorem buf_row {B : Nat} {v : Value} {l : List Int} {W0 w : World} (h : OwnBuf B 5 v (0 + l.length) ([] ++ intCells l) W0 w) (hl : 0 < l.length) :
    ∃ g cap, v = .slice (some ⟨g, 0, none⟩) l.length cap ∧ ∀ i, i < l.length → w.cell? ⟨g, 0 + i, none⟩ = some (.int .u8 (l.getD i 0)) := by
  rcases h.1.2 with ⟨_, h0⟩ | ⟨g, cap, cur, fz, rfl, _⟩
  · omega
  · refine ⟨g, cap, by simp, fun i hi => ?_⟩
    have := h.1.cells (g := g) (by simp [Value.ownBlock]) i (.int .u8 (l.getD i 0)) (by simp [intCells, List.getD, List.getElem?_eq_getElem hi])
    by_cases hi0 : i = 0 <;> simpa [Addr.add, hi0] using this
set_option maxHeartbeats 4000000 in
theorem quoteWith_any {s : ByteArray} {w : World} (hlen : s.size ≤ 100000) (hp : ∀ b ∈ By s, Pr b.toNat) :
    Calls Tryz.prog 184 #[.string s, .int .u8 34, .bool false, .bool false] w fun e w' => e = .returned (.string (strOfNums (qz (By s)))) ∧ Below w.heap.size w w' := by
  obtain ⟨i0, hi, hz0, hz1, hz2⟩ := info5q
  obtain ⟨c, hc⟩ : ∃ c, c = 3 * s.size / 2 := ⟨_, rfl⟩
  have hcI : 3 * (s.size : Int) / 2 = (c : Int) := by omega
  have hc1 : s.size ≤ c := by omega
  have hc2 : c ≤ 150000 := by omega
  have cQ : ∀ w1, OwnBuf w.heap.size 5 (.slice (some ⟨w.heap.size, 0, none⟩) 0 c) 0 [] w w1 → Calls Tryz.prog 185 #[.slice (some ⟨w.heap.size, 0, none⟩) 0 c, .string s, .int .u8 34, .bool false, .bool false] w1 fun e w' => ∃ v', e = .returned v' ∧ OwnBuf w.heap.size 5 v' (0 + (qz (By s)).length) ([] ++ intCells (qz (By s))) w w' :=
    fun w1 hb => quoted_any hb (by omega) (by omega) (by omega) hp
  clear hc hp
  go_enter Tryz.func184, Tryz.ntmps184
  go_wp2_with (first
    | (at_make; refine wpList_make_own _ rfl _ _ 87 rfl w.heap.size 5 i0 (.int .u8 0) 1 Tryz.underlying87 hi hz0 hz1 _ _ _ c rfl rfl (by first | rfl | assumption) (by rw [hz2]; omega) (by unfold maxLen; omega) (Nat.le_refl _) ?_; intro w1 hown hg)
    | fail)
  refine (cQ _ ⟨World.ownsRowF_of hown, (Below.refl _ _).grown hg (Nat.le_refl _) (by intro k hk; cases hk), hg.size⟩).mono ?_
  rintro e w2 ⟨v2, rfl, hb2⟩
  obtain ⟨g, cap, rfl, hcells⟩ := buf_row hb2 (by simp [qz])
  have hcv := run_convert_bytes_arg w2 87 5 Tryz.underlying87 Tryz.underlying5 g 0 _ cap (qz (By s)) rfl hcells 9 Tryz.underlying9
  go_wp2_with fail
  go_ret
  exact ⟨rfl, hb2.2.1⟩
theorem quote_any {s : ByteArray} {w : World} (hlen : s.size ≤ 100000) (hp : ∀ b ∈ By s, Pr b.toNat) :
    Calls Tryz.prog 183 #[.string s] w fun e w' => e = .returned (.string (strOfNums (qz (By s)))) ∧ Below w.heap.size w w' := by
  have cW := quoteWith_any (w := w) hlen hp
  go_enter Tryz.func183, Tryz.ntmps183
  go_wp2_with fail
  refine cW.mono ?_
  rintro e w2 ⟨rfl, hb⟩
  go_wp2_with fail
  go_ret
  exact ⟨rfl, hb⟩
end Go.Proofs.YtadpeebcombjnaaGreatDoor
namespace Go.Proofs.YtadpeebcombjnaaGreatDoor
open Go Go.Proofs Go.RowKit Go.Lib
set_option maxRecDepth 100000
theorem method_estr (a : Addr) (w : World) : (method (Tryz.prog.types.size + 100) 199 (.pointer (some a)) "Error").run Tryz.prog w = .ok (196, .pointer (some a)) w := by kernel_rfl
theorem enter_estr (args : Array Value) (w : World) : (callFunc 196 args).run Tryz.prog w = .ok (.enter 196 args) w := by kernel_rfl
/-- A variable that holds an error made by errors.New. -/
def ErrAt (lo g : Nat) (w : World) : Prop := ∃ (b o : Nat) (x : ByteArray), b < lo ∧ x.size ≤ 1000 ∧ w.cell? ⟨g, 0, none⟩ = some (.iface 199 (.pointer (some ⟨b, o, none⟩))) ∧ w.cell? ⟨b, o, none⟩ = some (.string x)
def TX (lo : Nat) (w : World) : Prop := Tabs lo w ∧ ErrAt lo 6 w ∧ ErrAt lo 7 w
theorem ErrAt.mono {lo base g : Nat} {w w' : World} (hl : lo ≤ base) (hb : Below base w w') (hg : g < lo) (h : ErrAt lo g w) : ErrAt lo g w' := by
  obtain ⟨b, o, x, h1, h2, h3, h4⟩ := h
  exact ⟨b, o, x, h1, h2, cell_at_below hb (by show g < base; omega) h3, cell_at_below hb (by show b < base; omega) h4⟩
theorem TX.mono {lo base : Nat} {w w' : World} (hl : lo ≤ base) (hb : Below base w w') (h : TX lo w) : TX lo w' := by
  have := h.1.low
  exact ⟨h.1.mono hl hb, h.2.1.mono hl hb (by omega), h.2.2.mono hl hb (by omega)⟩
theorem num_error {N : Nat} {fn s : ByteArray} {b o : Nat} {x : ByteArray} {w : World} (h : w.heap[N]? = some (.cells #[.string fn, .string s, .iface 199 (.pointer (some ⟨b, o, none⟩))] 173 (0, 0))) (hb : w.cell? ⟨b, o, none⟩ = some (.string x)) (hx : x.size ≤ 1000)
    (hfn : fn.size ≤ 1000) (hs : s.size ≤ 2001) (hp : ∀ b ∈ By s, Pr b.toNat) :
    Calls Tryz.prog 182 #[.pointer (some ⟨N, 0, none⟩)] w fun e w'' => (∃ x, e = .returned (.string x)) ∧ Below w.heap.size w w'' := by
  have hr : Row w N #[.string fn, .string s, .iface 199 (.pointer (some ⟨b, o, none⟩))] 173 := h
  have hbl := block_lt_of_cell hb
  have hq : (strOfNums (qz (By s))).size ≤ 3000 := by
    rw [strOfNums_size]
    have : (By s).length = s.size := rfl
    simp [qz, bz]
    omega
  refine (Tryz.NumError_Error N 0 fn s (strOfNums (qz (By s))) x 199 (.pointer (some ⟨b, o, none⟩)) 196 (.pointer (some ⟨b, o, none⟩)) w (hr.cell (j := 0) rfl) (hr.cell (j := 1) rfl) (hr.cell (j := 2) rfl) (by omega) (fun W _ => quote_any (by omega) hp) (method_estr _) enter_estr (fun W hW => ?_)).mono ?_
  · exact estr_any (cell_at_below hW hbl hb)
  · rintro e w' ⟨rfl, h2⟩
    exact ⟨⟨_, rfl⟩, h2⟩
/-- What strconv.ParseFloat gives. -/
def PfPost (r : Option Nat) (w : World) (e : Ending) (w' : World) : Prop := Below w.heap.size w w' ∧
    match r with
    | some x => e = .returned (.tuple #[.float .f64 x, .nilIface])
    | none => ∃ x g, e = .returned (.tuple #[.float .f64 x, .iface 158 (.pointer (some ⟨g, 0, none⟩))]) ∧ Calls Tryz.prog 182 #[.pointer (some ⟨g, 0, none⟩)] w' fun e w'' => (∃ x, e = .returned (.string x)) ∧ Below w'.heap.size w' w''
theorem parse_any {lo : Nat} {s : ByteArray} {w : World} {r : Option Nat} (hT : TX lo w) (hlo : lo ≤ w.heap.size) (hs : s.size ≤ 2001) (hp : ∀ b ∈ By s, Pr b.toNat) (h : Calls Tryz.prog 79 #[.string s, .int .i64 64] w (IpPost r w)) :
    Calls Tryz.prog 62 #[.string s, .int .i64 64] w (PfPost r w) := by
  have H := Lib.hid h
  have HT := Lib.hid hT
  have HP := Lib.hid hp
  clear h hT hp
  go_enter Tryz.func62, Tryz.ntmps62
  go_wp2_with fail
  refine H.out.mono ?_
  rintro e w2 ⟨hb, ⟨y, hr, rfl⟩ | ⟨y, c, hc, hr, rfl⟩⟩
  · have HB := Lib.hid hb
    have HR := Lib.hid hr
    clear hb hr
    go_wp2_with fail
    go_ret2
    refine ⟨HB.out, ?_⟩
    rw [HR.out]
    exact rfl
  · have HB := Lib.hid hb
    have HR := Lib.hid hr
    have hT2 := HT.out.mono hlo hb
    have hlow := hT2.1.low
    obtain ⟨b, o, x, e1, e2, e3, e4⟩ := hT2.2.1
    obtain ⟨b', o', x', f1, f2, f3, f4⟩ := hT2.2.2
    have hsz := hb.size
    rcases hc with rfl | rfl
    · have hE := Tryz.strconv_toError_range ⟨#[80, 97, 114, 115, 101, 70, 108, 111, 97, 116]⟩ s 0 64 _ w2 (by omega) f3 (.inr ⟨_, _, rfl⟩)
      have HF := Lib.hid f4
      clear hb hr hT2 e3 e4 f3 f4
      go_wp2_with fail
      refine hE.mono ?_
      rintro e w3 ⟨N, rfl, hN, hc, hb3⟩
      have HC := Lib.hid hc
      have HB3 := Lib.hid hb3
      clear hc hb3 hE
      go_wp2_with fail
      go_ret2
      refine ⟨(HB.out.trans ⟨HB3.out.os, HB3.out.tape, HB3.out.output, HB3.out.size, fun k hk => HB3.out.block k (by omega)⟩), ?_⟩
      rw [HR.out]
      exact ⟨_, _, rfl, num_error HC.out (cell_at_below HB3.out (by show b' < _; omega) HF.out) f2 (by decide) hs HP.out⟩
    · have hE := Tryz.strconv_toError_syntax ⟨#[80, 97, 114, 115, 101, 70, 108, 111, 97, 116]⟩ s 0 64 _ w2 (by omega) e3 (.inr ⟨_, _, rfl⟩)
      have HF := Lib.hid e4
      clear hb hr hT2 e3 e4 f3 f4
      go_wp2_with fail
      refine hE.mono ?_
      rintro e w3 ⟨N, rfl, hN, hc, hb3⟩
      have HC := Lib.hid hc
      have HB3 := Lib.hid hb3
      clear hc hb3 hE
      go_wp2_with fail
      go_ret2
      refine ⟨(HB.out.trans ⟨HB3.out.os, HB3.out.tape, HB3.out.output, HB3.out.size, fun k hk => HB3.out.block k (by omega)⟩), ?_⟩
      rw [HR.out]
      exact ⟨_, _, rfl, num_error HC.out (cell_at_below HB3.out (by show b < _; omega) HF.out) e2 (by decide) hs HP.out⟩
end Go.Proofs.YtadpeebcombjnaaGreatDoor
namespace Go.Proofs.YtadpeebcombjnaaGreatDoor
open Go Go.Proofs Go.RowKit Go.Lib
set_option maxRecDepth 100000
/-- A byte of a decimal. -/
def DecB (c : UInt8) : Prop := isDig c = true ∨ c = 46 ∨ c = 101 ∨ c = 69 ∨ c = 43 ∨ c = 45
theorem digN_all : ∀ (l : List UInt8) (i : Nat) (c : UInt8), i < digN l → l[i]? = some c → isDig c = true := by
  intro l
  induction l with
  | nil => intro i c h _; exact absurd h (Nat.not_lt_zero _)
  | cons a l ih =>
    intro i c h hc
    unfold digN at h
    by_cases ha : isDig a = true
    · rw [if_pos ha] at h
      cases i with
      | zero => rw [List.getElem?_cons_zero] at hc; rw [← Option.some.inj hc]; exact ha
      | succ i => rw [List.getElem?_cons_succ] at hc; exact ih i c (by omega) hc
    · rw [if_neg ha] at h
      exact absurd h (Nat.not_lt_zero _)
theorem drop_get {l : List UInt8} {n : Nat} {q : List UInt8} (h : l.drop n = q) (j : Nat) : l[n + j]? = q[j]? := by rw [← h, List.getElem?_drop]
theorem drop_next {l : List UInt8} {n : Nat} {a : UInt8} {q : List UInt8} (h : l.drop n = a :: q) : l.drop (n + 1) = q := by
  rw [← List.drop_drop, h]
  rfl
theorem manD_all (l : List UInt8) : ∀ (i : Nat) (c : UInt8), i < manN l → l[i]? = some c → DecB c := by
  intro i c hi hc
  by_cases hd : i < digN l
  · exact .inl (digN_all l i c hd hc)
  unfold manN at hi
  cases hl : l.drop (digN l) with
  | nil => rw [hl] at hi; exact absurd hi hd
  | cons a r =>
    rw [hl] at hi
    dsimp only at hi
    split at hi
    · rename_i ha
      split at hi
      · exact absurd hi (Nat.not_lt_zero _)
      · have hg := drop_get hl (i - digN l)
        rw [show digN l + (i - digN l) = i from by omega, hc] at hg
        cases hj : i - digN l with
        | zero => rw [hj, List.getElem?_cons_zero] at hg; rw [Option.some.inj hg]; exact .inr (.inl ha)
        | succ j => rw [hj, List.getElem?_cons_succ] at hg; exact .inl (digN_all r j c (by omega) hg.symm)
    · exact absurd hi hd
theorem exp_all {l : List UInt8} {m : Nat} (h : ∀ (i : Nat) (c : UInt8), i < m → l[i]? = some c → DecB c) : ∀ (i : Nat) (c : UInt8), i < expN l m → l[i]? = some c → DecB c := by
  intro i c hi hc
  by_cases him : i < m
  · exact h i c him hc
  unfold expN at hi
  cases hl : l.drop m with
  | nil => rw [hl] at hi; exact absurd hi him
  | cons a r =>
    rw [hl] at hi
    dsimp only at hi
    by_cases ha : a = 101 ∨ a = 69
    · rw [if_pos ha] at hi
      have hn := drop_next hl
      have hg := drop_get hl (i - m)
      rw [show m + (i - m) = i from by omega, hc] at hg
      clear hl
      cases hj : i - m with
      | zero => rw [hj, List.getElem?_cons_zero] at hg; rw [Option.some.inj hg]; exact .inr (.inr (ha.elim .inl fun h => .inr (.inl h)))
      | succ j =>
        rw [hj, List.getElem?_cons_succ] at hg
        cases r with
        | nil => rw [List.getElem?_nil] at hg; cases hg
        | cons d r2 =>
          dsimp only at hi
          by_cases hd : d = 43 ∨ d = 45
          · simp only [if_pos hd, show l.drop (m + 2) = r2 from drop_next hn] at hi
            cases j with
            | zero => rw [List.getElem?_cons_zero] at hg; rw [Option.some.inj hg]; exact .inr (.inr (.inr (.inr hd)))
            | succ j =>
              rw [List.getElem?_cons_succ] at hg
              by_cases hp : 0 < digN r2
              · rw [if_pos hp] at hi
                exact .inl (digN_all r2 j c (by omega) hg.symm)
              · rw [if_neg hp] at hi
                exact absurd hi him
          · simp only [if_neg hd, hn] at hi
            by_cases hp : 0 < digN (d :: r2)
            · rw [if_pos hp] at hi
              exact .inl (digN_all (d :: r2) j c (by omega) hg.symm)
            · rw [if_neg hp] at hi
              exact absurd hi him
    · rw [if_neg ha] at hi
      exact absurd hi him
theorem decD_all {l : List UInt8} (h : decN l = l.length) : ∀ c ∈ l, DecB c := by
  intro c hc
  obtain ⟨i, hi, he⟩ := List.mem_iff_getElem.1 hc
  have hg : l[i]? = some c := by rw [List.getElem?_eq_getElem hi, he]
  unfold decN at h
  split at h
  · omega
  · exact exp_all (manD_all l) i c (by omega) hg
theorem dec_head {l : List UInt8} (h : decN l = l.length) (h0 : l ≠ []) : ∃ c r, l = c :: r ∧ (isDig c = true ∨ c = 46) := by
  cases l with
  | nil => exact absurd rfl h0
  | cons c r =>
    refine ⟨c, r, rfl, ?_⟩
    by_cases hc : isDig c = true
    · exact .inl hc
    · right
      have hd : digN (c :: r) = 0 := by unfold digN; rw [if_neg hc]
      unfold decN at h
      split at h
      · simp at h
      · rename_i hm
        unfold manN at hm
        rw [hd, List.drop_zero] at hm
        dsimp only at hm
        split at hm
        · assumption
        · exact absurd rfl hm
theorem letD_all : ∀ {l : List UInt8}, letN l = l.length → ∀ c ∈ l, isLet c = true := by
  intro l
  induction l with
  | nil => intro _ c hc; exact absurd hc (by simp)
  | cons a l ih =>
    intro h c hc
    unfold letN at h
    by_cases ha : isLet a = true
    · rw [if_pos ha, List.length_cons] at h
      rcases List.mem_cons.1 hc with rfl | hc
      · exact ha
      · exact ih (by omega) c hc
    · rw [if_neg ha, List.length_cons] at h
      omega
theorem DecB.ne {c : UInt8} (h : DecB c) : c ≠ 95 ∧ c ≠ 120 ∧ c ≠ 88 ∧ Pr c.toNat := by
  have hp : ∀ n : Fin 256, DecB (UInt8.ofNat n.val) → 32 ≤ n.val ∧ n.val ≤ 126 ∧ n.val ≠ 34 ∧ n.val ≠ 92 ∧ n.val ≠ 95 ∧ n.val ≠ 120 ∧ n.val ≠ 88 := by unfold DecB; decide +kernel
  obtain ⟨h1, h2, h3, h4, h5, h6, h7⟩ := hp ⟨c.toNat, UInt8.toNat_lt c⟩ (by rw [UInt8.ofNat_toNat]; exact h)
  dsimp only at h1 h2 h3 h4 h5 h6 h7
  exact ⟨by rintro rfl; exact h5 rfl, by rintro rfl; exact h6 rfl, by rintro rfl; exact h7 rfl, by omega, by omega, by omega, by omega⟩
theorem let_ne {c : UInt8} (h : isLet c = true) : c ≠ 95 ∧ c ≠ 48 ∧ c ≠ 43 ∧ c ≠ 45 ∧ c ≠ 46 ∧ isDig c = false ∧ Pr c.toNat := by
  have hp : ∀ n : Fin 256, isLet (UInt8.ofNat n.val) = true → 32 ≤ n.val ∧ n.val ≤ 126 ∧ n.val ≠ 34 ∧ n.val ≠ 92 ∧ n.val ≠ 95 ∧ n.val ≠ 48 ∧ n.val ≠ 43 ∧ n.val ≠ 45 ∧ n.val ≠ 46 ∧ isDig (UInt8.ofNat n.val) = false := by decide +kernel
  obtain ⟨h1, h2, h3, h4, h5, h6, h7, h8, h9, h10⟩ := hp ⟨c.toNat, UInt8.toNat_lt c⟩ (by rw [UInt8.ofNat_toNat]; exact h)
  dsimp only at h1 h2 h3 h4 h5 h6 h7 h8 h9 h10
  rw [UInt8.ofNat_toNat] at h10
  exact ⟨by rintro rfl; exact h5 rfl, by rintro rfl; exact h6 rfl, by rintro rfl; exact h7 rfl, by rintro rfl; exact h8 rfl, by rintro rfl; exact h9 rfl, h10, by omega, by omega, by omega, by omega⟩
theorem num_head {c : UInt8} (h : isDig c = true ∨ c = 46) : c ≠ 43 ∧ c ≠ 45 ∧ ¬ (c = 105 ∨ c = 73) ∧ ¬ (c = 110 ∨ c = 78) ∧ lowB c ≠ 105 := by
  have hp : ∀ n : Fin 256, isDig (UInt8.ofNat n.val) = true ∨ UInt8.ofNat n.val = 46 → n.val ≠ 43 ∧ n.val ≠ 45 ∧ n.val ≠ 105 ∧ n.val ≠ 73 ∧ n.val ≠ 110 ∧ n.val ≠ 78 ∧ lowB (UInt8.ofNat n.val) ≠ 105 := by decide +kernel
  obtain ⟨h1, h2, h3, h4, h5, h6, h7⟩ := hp ⟨c.toNat, UInt8.toNat_lt c⟩ (by rw [UInt8.ofNat_toNat]; exact h)
  dsimp only at h1 h2 h3 h4 h5 h6 h7
  rw [UInt8.ofNat_toNat] at h7
  exact ⟨by rintro rfl; exact h1 rfl, by rintro rfl; exact h2 rfl, by rintro (rfl | rfl); exact h3 rfl; exact h4 rfl, by rintro (rfl | rfl); exact h5 rfl; exact h6 rfl, h7⟩
/-- ParseFloat, in plain words. -/
noncomputable def pfL : List UInt8 → Option Nat
  | [] => none
  | c :: l => if c = 45 then whole (l.length + 1) (atF true (c :: l) l) else whole (l.length + 1) (atF false (c :: l) (c :: l))
theorem pfL_cons (c : UInt8) (l : List UInt8) : pfL (c :: l) = if c = 45 then whole (l.length + 1) (atF true (c :: l) l) else whole (l.length + 1) (atF false (c :: l) (c :: l)) := rfl
theorem whole_some {k : Nat} {r : Option (Nat × Nat)} {x : Nat} (h : whole k r = some x) : r = some (x, k) := by
  cases r with
  | none => cases h
  | some q =>
    obtain ⟨a, b⟩ := q
    unfold whole at h
    rw [Option.bind_some] at h
    dsimp only at h
    split at h
    · rename_i hb; rw [← hb, ← Option.some.inj h]
    · cases h
/-- What atof64 gives: a special word, or a finite one. -/
theorem atF_some {neg : Bool} {l t : List UInt8} {x n : Nat} (h : atF neg l t = some (x, n)) : spF l = some (x, n) ∨ ∃ y, spF l = none ∧ x = y + sgn neg ∧ y < 9223372036854775808 ∧ finW y = true := by
  unfold atF at h
  cases hs : spF l with
  | some q => rw [hs] at h; exact .inl h
  | none =>
    right
    rw [hs] at h
    dsimp only at h
    cases hr : rfF t with
    | none => rw [hr] at h; cases h
    | some q =>
      obtain ⟨m, e, tr, r⟩ := q
      rw [hr, Option.bind_some] at h
      dsimp only at h
      have hm := mg_fin (t := t.take (t.length - r.length)) (x := e) (tr := tr) (rfF_ok hr).1
      split at h
      · cases h
      · rename_i hb
        have := Option.some.inj h
        exact ⟨_, rfl, (congrArg Prod.fst this).symm, hm.1, hm.2 (by simpa using hb)⟩
theorem spF_some {l : List UInt8} {x n : Nat} (h : spF l = some (x, n)) : x = 9218868437227405312 ∨ x = 9221120237041090561 := by
  cases l with
  | nil => cases h
  | cons c l =>
    rw [spF_cons] at h
    split at h
    · split at h
      · exact .inl (congrArg Prod.fst (Option.some.inj h)).symm
      · cases h
    · split at h
      · split at h
        · exact .inr (congrArg Prod.fst (Option.some.inj h)).symm
        · cases h
      · cases h
theorem fin_sgn {y : Nat} (neg : Bool) (h : y < 9223372036854775808) (hf : finW y = true) : y + sgn neg < 2 ^ 64 ∧ finW (y + sgn neg) = true := by
  cases neg with
  | false => exact ⟨by show y + 0 < 2 ^ 64; omega, hf⟩
  | true =>
    refine ⟨by show y + 9223372036854775808 < 2 ^ 64; omega, ?_⟩
    unfold finW at hf ⊢
    have h1 := of_decide_eq_true hf
    refine decide_eq_true ?_
    show (y + 9223372036854775808) % 2 ^ 63 < _
    omega
theorem whole_lt {neg : Bool} {l t : List UInt8} {k x : Nat} (h : whole k (atF neg l t) = some x) : x < 2 ^ 64 ∧ (finW x = true ∨ x = 9218868437227405312 ∨ x = 9221120237041090561) := by
  rcases atF_some (whole_some h) with h | ⟨y, -, rfl, h1, h2⟩
  · rcases spF_some h with rfl | rfl
    · exact ⟨by decide, .inr (.inl rfl)⟩
    · exact ⟨by decide, .inr (.inr rfl)⟩
  · exact ⟨(fin_sgn neg h1 h2).1, .inl (fin_sgn neg h1 h2).2⟩
theorem pfL_lt (l : List UInt8) (x : Nat) (h : pfL l = some x) : x < 2 ^ 64 ∧ (finW x = true ∨ x = 9218868437227405312 ∨ x = 9221120237041090561) := by
  cases l with
  | nil => cases h
  | cons c l =>
    rw [pfL_cons] at h
    split at h
    · exact whole_lt h
    · exact whole_lt h
theorem spF_num {c : UInt8} {l : List UInt8} (h : isDig c = true ∨ c = 46) : spF (c :: l) = none := by
  obtain ⟨-, -, h1, h2, -⟩ := num_head h
  rw [spF_cons, if_neg h1, if_neg h2]
theorem rfF_let {c : UInt8} {l : List UInt8} (h : c ≠ 46) (h1 : isDig c = false) : rfF (c :: l) = none := by
  have hm : mF (c :: l) msI = (msI, c :: l) := by
    rw [mF, if_neg h, if_neg (by rw [h1]; decide)]
  unfold rfF
  rw [hm]
  rfl
theorem atF_let {neg : Bool} {c : UInt8} {l q : List UInt8} (h : c ≠ 46) (h1 : isDig c = false) (hs : spF q = none) : atF neg q (c :: l) = none := by
  unfold atF
  rw [hs, rfF_let h h1]
  rfl
theorem num_law : NumLaw pfL := by
  refine ⟨?_, ?_, ?_, ?_⟩
  · intro t x hd h0 h
    obtain ⟨c, r, rfl, hc⟩ := dec_head hd h0
    have hn := num_head hc
    rw [pfL_cons] at h
    rw [if_neg hn.2.1] at h
    rcases atF_some (whole_some h) with h | ⟨y, -, rfl, h1, h2⟩
    · rw [spF_num hc] at h; cases h
    · exact (fin_sgn false h1 h2).2
  · intro t hd h0
    obtain ⟨c, r, rfl, hc⟩ := dec_head hd h0
    have hn := num_head hc
    rw [pfL_cons, pfL_cons, if_pos rfl, if_neg hn.2.1]
    unfold atF
    rw [spF_45, spF_num hc]
    dsimp only
    cases hr : rfF (c :: r) with
    | none => rfl
    | some q =>
      obtain ⟨m, e, tr, u⟩ := q
      have hok := rfF_ok hr
      rw [Option.bind_some, Option.bind_some]
      dsimp only
      have hm := mg_fin (t := (c :: r).take ((c :: r).length - u.length)) (x := e) (tr := tr) hok.1
      generalize mg ((c :: r).take ((c :: r).length - u.length)) m e tr = g at hm
      obtain ⟨y, b⟩ := g
      cases b with
      | true => rfl
      | false =>
        have hy := hm.1
        dsimp only at hy
        have hl := hok.2
        have hbf : ¬ ((y, false) : Nat × Bool).snd = true := Bool.false_ne_true
        rw [if_neg hbf, if_neg hbf]
        unfold whole
        rw [Option.bind_some, Option.bind_some]
        dsimp only
        by_cases hu : u.length = 0
        · rw [if_pos (by simp only [List.length_cons]; omega), if_pos (by simp only [List.length_cons]; omega)]
          show some (y + 9223372036854775808) = some (flipW (y + 0))
          unfold flipW
          rw [if_pos (by omega)]
        · rw [if_neg (by simp only [List.length_cons] at hl ⊢; omega), if_neg (by simp only [List.length_cons] at hl ⊢; omega)]
          rfl
  · intro t h0 hl
    cases t with
    | nil => exact absurd rfl h0
    | cons c r =>
      have hc := let_ne (letD_all hl c List.mem_cons_self)
      unfold PN
      cases hp : pfL (c :: r) with
      | none => rfl
      | some x =>
        rw [pfL_cons] at hp
        rw [if_neg hc.2.2.2.1] at hp
        have hw := whole_some hp
        rcases atF_some hw with h | ⟨y, hs, -⟩
        · rcases spF_some h with rfl | rfl <;> rfl
        · rw [atF_let hc.2.2.2.2.1 hc.2.2.2.2.2.1 hs] at hw
          cases hw
  · intro c hc
    rcases hc with rfl | rfl | rfl | rfl
    · unfold PN
      rw [pfL_cons, if_neg (by decide), atF_let (by decide) (by decide) (by rfl)]
      rfl
    · unfold PN
      rw [pfL_cons, if_neg (by decide), atF_let (by decide) (by decide) (by rfl)]
      rfl
    · unfold PN
      rw [pfL_cons, if_neg (by decide), atF_let (by decide) (by decide) (by rfl)]
      rfl
    · unfold PN
      rw [pfL_cons, if_pos rfl]
      rfl
theorem cpl_no {c : UInt8} {l : List UInt8} (h : lowB c ≠ 105) : cpl (c :: l) INFW = 0 := by
  unfold INFW
  rw [cpl, if_neg h]
theorem dec_rf {l : List UInt8} (h : decN l = l.length) (h0 : l ≠ []) : RfOk l ∧ SpOk l ∧ SpOk (45 :: l) ∧ (∀ c ∈ l, Pr c.toNat) ∧ ∀ r, l ≠ 45 :: r := by
  obtain ⟨c, r, rfl, hc⟩ := dec_head h h0
  have hn := num_head hc
  have ha := decD_all h
  refine ⟨⟨fun c hc => (ha c hc).ne.1, fun d q hq => ?_, fun q => ⟨?_, ?_⟩⟩, ⟨fun q hq => ?_, fun q hq => ?_⟩, ⟨fun q hq => ?_, fun q hq => ?_⟩, fun c hc => (ha c hc).ne.2.2.2, fun q hq => ?_⟩
  · have hd := (ha d (by rw [hq]; exact List.mem_cons_of_mem _ List.mem_cons_self)).ne
    rintro (h1 | h1)
    · exact hd.2.1 h1
    · exact hd.2.2.1 h1
  · intro hq; exact hn.1 (List.cons.inj hq).1
  · intro hq; exact hn.2.1 (List.cons.inj hq).1
  · exact hn.1 (List.cons.inj hq).1
  · exact absurd (List.cons.inj hq).1 hn.2.1
  · exact absurd (List.cons.inj hq).1 (by decide)
  · rw [← (List.cons.inj hq).2]; exact cpl_no hn.2.2.2.2
  · exact hn.2.1 (List.cons.inj hq).1
/-- What ParseFloat's contract needs of a text. -/
def TextOk (l : List UInt8) : Prop := ∃ neg t, l = (if neg = true then 45 :: t else t) ∧ RfOk t ∧ SpOk l ∧ (∀ c ∈ l, Pr c.toNat) ∧ pfL l = whole l.length (atF neg l t)
theorem rf_nil : RfOk [] := ⟨fun c hc => absurd hc (by simp), fun c r h => absurd h (by simp), fun r => ⟨by simp, by simp⟩⟩
theorem text_pos {l : List UInt8} (h1 : RfOk l) (h2 : SpOk l) (h3 : ∀ c ∈ l, Pr c.toNat) : TextOk l := by
  refine ⟨false, l, rfl, h1, h2, h3, ?_⟩
  cases l with
  | nil => rfl
  | cons c r =>
    rw [pfL_cons, if_neg]
    · rfl
    · rintro rfl
      exact (h1.2.2 r).2 rfl
theorem text_neg {l : List UInt8} (h1 : RfOk l) (h2 : SpOk (45 :: l)) (h3 : ∀ c ∈ l, Pr c.toNat) : TextOk (45 :: l) := by
  refine ⟨true, l, rfl, h1, h2, ?_, ?_⟩
  · intro c hc
    rcases List.mem_cons.1 hc with rfl | hc
    · exact ⟨by decide, by decide, by decide, by decide⟩
    · exact h3 c hc
  · rw [pfL_cons, if_pos rfl]
    rfl
theorem sp_nil : SpOk [] ∧ SpOk [45] := by
  refine ⟨⟨fun r h => absurd h (by simp), fun r h => absurd h (by simp)⟩, ⟨fun r h => absurd (List.cons.inj h).1 (by decide), fun r h => ?_⟩⟩
  rw [← (List.cons.inj h).2]
  rfl
theorem dom_ok {l : List UInt8} (h : Dom l) : TextOk l := by
  have hnum : ∀ {u : List UInt8}, Good (49, u) → decN u = u.length ∧ u ≠ [] := by
    intro u hu
    cases hu with
    | num h0 h h1 => exact ⟨h, h0⟩
    | sign h => rcases h with h | h | h | h <;> exact absurd h (by decide)
  rcases h with ⟨d, hd, hl⟩ | ⟨k, hk⟩
  · rcases hd with rfl | hd
    · rcases hl with rfl | rfl
      · exact text_pos rf_nil sp_nil.1 (fun c hc => absurd hc (by simp))
      · exact text_neg rf_nil sp_nil.2 (fun c hc => absurd hc (by simp))
    · obtain ⟨h1, h2⟩ := hnum hd
      obtain ⟨a, b, c, e, -⟩ := dec_rf h1 h2
      rcases hl with rfl | rfl
      · exact text_pos a b e
      · exact text_neg a c e
  · cases hk with
    | word h0 h =>
      have ha := letD_all h
      refine text_pos ⟨fun c hc => (let_ne (ha c hc)).1, fun c r hl => ?_, fun r => ⟨?_, ?_⟩⟩ ⟨fun r hl => ?_, fun r hl => ?_⟩ fun c hc => (let_ne (ha c hc)).2.2.2.2.2.2
      · exact absurd rfl (let_ne (ha 48 (by rw [hl]; exact List.mem_cons_self))).2.1
      · intro hl; exact absurd rfl (let_ne (ha 43 (by rw [hl]; exact List.mem_cons_self))).2.2.1
      · intro hl; exact absurd rfl (let_ne (ha 45 (by rw [hl]; exact List.mem_cons_self))).2.2.2.1
      · exact absurd rfl (let_ne (ha 43 (by rw [hl]; exact List.mem_cons_self))).2.2.1
      · exact absurd rfl (let_ne (ha 45 (by rw [hl]; exact List.mem_cons_self))).2.2.2.1
    | num h0 h h1 =>
      obtain ⟨a, b, c, e, -⟩ := dec_rf h h0
      exact text_pos a b e
    | sign h =>
      have one : ∀ c : UInt8, c = 40 ∨ c = 41 ∨ c = 44 → TextOk [c] := by
        intro c hc
        have hne : c ≠ 95 ∧ c ≠ 48 ∧ c ≠ 43 ∧ c ≠ 45 ∧ Pr c.toNat := by
          rcases hc with rfl | rfl | rfl <;> exact ⟨by decide, by decide, by decide, by decide, by decide, by decide, by decide, by decide⟩
        refine text_pos ⟨fun d hd => ?_, fun d r hl => ?_, fun r => ⟨?_, ?_⟩⟩ ⟨fun r hl => ?_, fun r hl => ?_⟩ fun d hd => ?_
        · rw [List.mem_singleton.1 hd]; exact hne.1
        · exact absurd (List.cons.inj hl).1 hne.2.1
        · intro hl; exact hne.2.2.1 (List.cons.inj hl).1
        · intro hl; exact hne.2.2.2.1 (List.cons.inj hl).1
        · exact hne.2.2.1 (List.cons.inj hl).1
        · exact absurd (List.cons.inj hl).1 hne.2.2.2.1
        · rw [List.mem_singleton.1 hd]; exact hne.2.2.2.2
      rcases h with rfl | rfl | rfl | rfl
      · exact one _ (.inl rfl)
      · exact one _ (.inr (.inl rfl))
      · exact one _ (.inr (.inr rfl))
      · exact text_neg rf_nil sp_nil.2 (fun c hc => absurd hc (by simp))
/-- The contract that the parser's walks stand on. -/
theorem pf_contract {lo : Nat} (hlow : 24 ≤ lo) : PFC lo (TX lo) pfL := by
  refine ⟨hlow, fun hl hb h => h.mono hl hb, pfL_lt, fun w l hT hlo hl hd => ?_⟩
  obtain ⟨neg, t, h1, h2, h3, h4, h5⟩ := dom_ok hd
  have hs : (⟨l.toArray⟩ : ByteArray).size ≤ 2001 := hl
  have h := parse_any hT hlo hs h4 (iparse_any (atof_any hT.1 hlo ⟨l.toArray⟩ neg t hs h1 h2 h3))
  rw [h5]
  exact h
end Go.Proofs.YtadpeebcombjnaaGreatDoor
