/- internal/strconv's atof64: the walk. -/
import Derived.Test.YtadpeebcombjnaaGreatDoorEF
namespace Go.Proofs.YtadpeebcombjnaaGreatDoor
open Go Go.Proofs Go.RowKit Go.Lib
set_option maxRecDepth 100000
theorem results_t3' {fn : Func} {t u v : Tmp} (h : fn.results = #[.tmp t, .tmp u, .tmp v]) (tmps : Array Value) (P : Program) (w : World) :
    (results fn tmps).run P w = .ok (.tuple #[tmps.getD t undef, tmps.getD u undef, tmps.getD v undef]) w := results_t3 h tmps P w
/-- What atof64 leaves. -/
def AtPost (r : Option (Nat × Nat)) (w : World) (e : Ending) (w' : World) : Prop := Below w.heap.size w w' ∧
  ((∃ y n, r = some (y, n) ∧ e = .returned (.tuple #[.float .f64 y, .int .i64 (n : Nat), .nilIface])) ∨
   (∃ (y : Nat) (n c : Int), (c = 1 ∨ c = 2) ∧ r = none ∧ e = .returned (.tuple #[.float .f64 y, .int .i64 n, .iface 157 (.int .i64 c)])))
theorem below_refl (w : World) : Below w.heap.size w w := Below.refl _ _
theorem slice_to (s : ByteArray) (n : Nat) (h : n ≤ s.size) (w : World) :
    (Instr.slice 9 (.string s) none (some (.int .i64 (n : Int))) none).run Tryz.prog w = .ok (.string (s.extract 0 n)) w := by
  have h0 : (0 : Int) ≤ (n : Int) := by omega
  simp [Instr.slice, run_underlying Tryz.underlying9, Instr.sliceBounds, Instr.sliceBound, asIntOf, h, h0]
theorem RfOk.take {t : List UInt8} (h : RfOk t) (j : Nat) : RfOk (t.take j) := by
  obtain ⟨h1, h2, h3⟩ := h
  have hd : ∀ a l, t.take j = a :: l → ∃ l', t = a :: l' := by
    intro a l hl
    cases t with
    | nil => rw [List.take_nil] at hl; cases hl
    | cons b t' =>
      cases j with
      | zero => cases hl
      | succ j =>
        rw [List.take_succ_cons] at hl
        injection hl with h1 h2
        exact ⟨t', by rw [h1]⟩
  refine ⟨fun c hc => h1 c (List.mem_of_mem_take hc), fun c r hr => ?_, fun r => ⟨fun hr => ?_, fun hr => ?_⟩⟩
  · cases t with
    | nil => rw [List.take_nil] at hr; cases hr
    | cons b t' =>
      cases j with
      | zero => cases hr
      | succ j =>
        rw [List.take_succ_cons] at hr
        injection hr with hb hr
        cases t' with
        | nil => rw [List.take_nil] at hr; cases hr
        | cons d t'' =>
          cases j with
          | zero => cases hr
          | succ j =>
            rw [List.take_succ_cons] at hr
            injection hr with hdd hr
            subst hb hdd
            exact h2 _ t'' rfl
  · obtain ⟨l', e⟩ := hd _ _ hr
    exact (h3 l').1 e
  · obtain ⟨l', e⟩ := hd _ _ hr
    exact (h3 l').2 e
theorem eF_len : ∀ (l : List UInt8) (e : Nat), (eF l e).2.length ≤ l.length := by
  intro l
  induction l with
  | nil => intro e; exact Nat.le_refl _
  | cons c l ih =>
    intro e
    rw [eF]
    split
    · exact Nat.le_succ_of_le (ih _)
    · exact Nat.le_refl _
theorem exF_len {l : List UInt8} {x : Int} {r : List UInt8} (h : exF l = some (x, r)) : r.length ≤ l.length := by
  cases l with
  | nil =>
    have h1 := congrArg Prod.snd (Option.some.inj h)
    have h1 : ([] : List UInt8) = r := h1
    rw [← h1]; exact Nat.le_refl _
  | cons c l =>
    have h : (if c = 101 ∨ c = 69 then (if l = [] then none else edF (esF l).2 (esF l).1) else some (0, c :: l)) = some (x, r) := h
    by_cases hc : c = 101 ∨ c = 69
    · rw [if_pos hc] at h
      by_cases hl : l = []
      · rw [if_pos hl] at h; cases h
      · rw [if_neg hl] at h
        have hes : (esF l).2.length ≤ l.length := by
          cases l with
          | nil => exact Nat.le_refl _
          | cons d l =>
            have e : esF (d :: l) = if d = 43 then (1, l) else if d = 45 then (-1, l) else (1, d :: l) := rfl
            rw [e]
            split
            · exact Nat.le_succ _
            · split
              · exact Nat.le_succ _
              · exact Nat.le_refl _
        cases he : (esF l).2 with
        | nil => rw [he] at h; cases h
        | cons a l' =>
          rw [he] at h hes
          have h : (if isDig a = true then some (((eF (a :: l') 0).1 : Int) * (esF l).1, (eF (a :: l') 0).2) else none) = some (x, r) := h
          by_cases hd : isDig a = true
          · rw [if_pos hd] at h
            have h1 := congrArg Prod.snd (Option.some.inj h)
            have h1 : (eF (a :: l') 0).2 = r := h1
            have h2 := eF_len (a :: l') 0
            rw [h1] at h2
            rw [List.length_cons]
            omega
          · rw [if_neg hd] at h; cases h
    · rw [if_neg hc] at h
      have h1 := congrArg Prod.snd (Option.some.inj h)
      have h1 : c :: l = r := h1
      rw [← h1]; exact Nat.le_refl _
theorem rfF_ok {t : List UInt8} {m : Nat} {x : Int} {tr : Bool} {r : List UInt8} (h : rfF t = some (m, x, tr, r)) : m < 10 ^ 19 ∧ r.length ≤ t.length := by
  unfold rfF at h
  split at h
  · cases h
  obtain ⟨p, hp, h⟩ := Option.map_eq_some_iff.1 h
  have hm := mF_mb t msI 0 ⟨Nat.le_refl _, by decide, ⟨by decide, by decide⟩, by decide⟩
  have hl := mF_le t msI
  have h1 : (mF t msI).1.m = m := congrArg Prod.fst h
  have h2 : p.2 = r := congrArg (fun q => q.2.2.2) h
  obtain ⟨p1, p2⟩ := p
  have h3 := exF_len hp
  dsimp only at h2
  subst h2
  rw [← h1]
  exact ⟨hm.m19, Nat.le_trans h3 hl⟩
set_option maxHeartbeats 8000000 in
theorem atof_any {lo : Nat} {w : World} (hT : Tabs lo w) (hlo : lo ≤ w.heap.size) (s : ByteArray) (neg : Bool) (t : List UInt8) (hs : s.size ≤ 2001) (ht : By s = if neg = true then 45 :: t else t) (hok : RfOk t) (hsp : SpOk (By s)) :
    Calls Tryz.prog 104 #[.string s] w (AtPost (atF neg (By s) t) w) := by
  have hspc := special_any s w (by omega) hsp
  have hrf := readFloat_any s neg t w hs ht hok
  have HT := Lib.hid hT
  have HS := Lib.hid ht
  have HOK := Lib.hid hok
  have h2 := from_call2
  have hopt := hT.opt
  obtain ⟨res, hres⟩ : ∃ r, atF neg (By s) t = r := ⟨_, rfl⟩
  rw [hres]
  have HRES := Lib.hid hres
  have hsl : s.size = (By s).length := (size_list s).symm
  clear hT ht hok hsp hres
  go_enter Tryz.func104, Tryz.ntmps104
  go_wp2_with fail
  refine hspc.mono ?_
  rintro e wq ⟨hwq, ⟨hsf, rfl⟩ | ⟨v, n, hsf, rfl⟩⟩
  · rw [hwq]
    clear hwq hspc
    have HSF := Lib.hid hsf
    clear hsf
    go_wp2_with fail
    refine hrf.mono ?_
    rintro e wq ⟨hwq, ⟨hrn, a, b, c, d, f, g, rfl⟩ | ⟨m, x, tr, r, hrs, rfl⟩⟩
    · rw [hwq]
      clear hwq hrf
      have HR0 : Hid (res = none) := Lib.hid (by rw [← HRES.out, atF, HSF.out, hrn]; rfl)
      clear hrn
      go_wp2_with fail
      refine bodyPost_ret (results_t3 rfl _ _ _) rfl ?_
      exact ⟨Below.refl _ _, .inr ⟨_, _, _, .inr rfl, HR0.out, rfl⟩⟩
    · rw [hwq]
      clear hwq hrf
      obtain ⟨hm19, hrl⟩ := rfF_ok hrs
      have htl : t.length + (if neg = true then 1 else 0) = s.size := by
        have := congrArg List.length HS.out
        rw [← hsl] at this
        rw [this]
        cases neg <;> simp
      obtain ⟨n, hn⟩ : ∃ n, s.size - r.length = n := ⟨_, rfl⟩
      obtain ⟨j, hj⟩ : ∃ j, t.length - r.length = j := ⟨_, rfl⟩
      have hns : n ≤ s.size := by omega
      have hR1 : res = if (mg (t.take j) m x tr).2 = true then none else some ((mg (t.take j) m x tr).1 + sgn neg, n) := by
        rw [← HRES.out, atF, HSF.out, hrs, ← hn, ← hj, hsl]
        rfl
      have hpre : By (s.extract 0 n) = if neg = true then 45 :: t.take j else t.take j := by
        have e1 : By (s.extract 0 n) = (By s).take n := by
          show (s.extract 0 n).data.toList = _
          rw [Lib.extract_data]; simp
        rw [e1, HS.out]
        cases neg with
        | true =>
          have : n = j + 1 := by simp at htl; omega
          rw [if_pos rfl, if_pos rfl, this, List.take_succ_cons]
        | false =>
          have : n = j := by simp at htl; omega
          rw [if_neg (by decide), if_neg (by decide), this]
      have hesz : (s.extract 0 n).size ≤ 2001 := by rw [ByteArray.size_extract]; omega
      have hst := slice_to s n hns
      have HR1 := Lib.hid hR1
      have HPRE := Lib.hid hpre
      have HTK := Lib.hid (HOK.out.take j)
      have HM19 : Hid (m < 10 ^ 19) := Lib.hid hm19
      obtain ⟨tk, htk⟩ : ∃ tk, t.take j = tk := ⟨_, rfl⟩
      rw [htk] at HR1 HPRE HTK
      have hm64 : m < 2 ^ 63 + 2 ^ 62 + 2 ^ 61 := by omega
      have hb64 := bool64_any neg w
      have hsg : sgn neg = 0 ∨ sgn neg = 9223372036854775808 := by cases neg; exact .inl rfl; exact .inr rfl
      have hshl : IntKind.u64.wrap (((neg.toNat : Nat) : Int) * 9223372036854775808) = ((sgn neg : Nat) : Int) := by cases neg <;> decide
      have HNS := Lib.hid hn
      rw [hn]
      obtain ⟨bn, hbn⟩ : ∃ bn, neg.toNat = bn := ⟨_, rfl⟩
      rw [hbn] at hb64 hshl
      clear hrs hrl htl hR1 hpre htk hj hn hsl hbn HRES HSF HS HOK hm19
      by_cases h0 : m = 0
      · subst h0
        have HQ : Hid (res = some (sgn neg, n)) := Lib.hid (by rw [HR1.out, mg, if_pos rfl]; simp)
        have ho : bits BinOp.or IntKind.u64 ((sgn neg : Nat) : Int) 0 = ((sgn neg : Nat) : Int) := by
          have h := or_low (sgn neg) 0 (by decide) hsg
          have e : ((0 : Nat) : Int) = 0 := rfl
          rw [e, Nat.add_zero] at h
          exact h
        obtain ⟨sg, hsgv⟩ : ∃ sg, sgn neg = sg := ⟨_, rfl⟩
        rw [hsgv] at HQ ho hshl
        clear hsgv hsg hst hesz
        go_wp2_with fail
        refine hb64.mono ?_
        rintro _ wq ⟨rfl, hwq⟩
        rw [hwq]
        clear hwq hb64
        go_wp2_with fail
        refine bodyPost_ret (results_t3 rfl _ _ _) rfl ?_
        exact ⟨Below.refl _ _, .inl ⟨_, _, HQ.out, rfl⟩⟩
      · have h0b : ((m : Int) == 0) = false := by rw [beq_eq_false_iff_ne]; omega
        by_cases h310 : 310 < x
        · have HQ : Hid (res = none) := Lib.hid (by rw [HR1.out, mg, if_neg h0, if_pos h310]; rfl)
          have ho : bits BinOp.or IntKind.u64 ((sgn neg : Nat) : Int) 9218868437227405312 = ((sgn neg + 9218868437227405312 : Nat) : Int) := or_low (sgn neg) 9218868437227405312 (by decide) hsg
          obtain ⟨sg, hsgv⟩ : ∃ sg, sgn neg = sg := ⟨_, rfl⟩
          rw [hsgv] at ho hshl
          obtain ⟨iv, hiv⟩ : ∃ iv, sg + 9218868437227405312 = iv := ⟨_, rfl⟩
          rw [hiv] at ho
          clear hsgv hsg hst hesz h0 hiv
          go_wp2_with fail
          refine hb64.mono ?_
          rintro _ wq ⟨rfl, hwq⟩
          rw [hwq]
          clear hwq hb64
          go_wp2_with fail
          refine bodyPost_ret (results_t3 rfl _ _ _) rfl ?_
          exact ⟨Below.refl _ _, .inr ⟨_, _, _, .inl rfl, HQ.out, rfl⟩⟩
        · by_cases h345 : x < -345
          · have HQ : Hid (res = some (sgn neg, n)) := Lib.hid (by rw [HR1.out, mg, if_neg h0, if_neg h310, if_pos h345]; simp)
            have ho : bits BinOp.or IntKind.u64 ((sgn neg : Nat) : Int) 0 = ((sgn neg : Nat) : Int) := by
              have h := or_low (sgn neg) 0 (by decide) hsg
              have e : ((0 : Nat) : Int) = 0 := rfl
              rw [e, Nat.add_zero] at h
              exact h
            obtain ⟨sg, hsgv⟩ : ∃ sg, sgn neg = sg := ⟨_, rfl⟩
            rw [hsgv] at HQ ho hshl
            clear hsgv hsg hst hesz h0
            go_wp2_with fail
            refine hb64.mono ?_
            rintro _ wq ⟨rfl, hwq⟩
            rw [hwq]
            clear hwq hb64
            go_wp2_with fail
            refine bodyPost_ret (results_t3 rfl _ _ _) rfl ?_
            exact ⟨Below.refl _ _, .inl ⟨_, _, HQ.out, rfl⟩⟩
          · have hxr : -345 ≤ x ∧ x ≤ 310 := by omega
            have HR2 : Hid ((tr = false → mg tk m x tr = match exW m x with | some y => (y, false) | none => pf64 m x) ∧ (tr = true → mg tk m x tr = if feq (pf64 m x).1 (pf64 (m + 1) x).1 = true then pf64 m x else (match setF tk with | some s => (fbW (fbT s), (fbT s).2.2) | none => (0, true)))) := Lib.hid (by
              constructor
              · intro htr; unfold mg; rw [if_neg h0, if_neg h310, if_neg h345, if_pos htr]; rfl
              · intro htr; unfold mg; rw [if_neg h0, if_neg h310, if_neg h345, if_neg (by rw [htr]; decide)]; rfl)
            have hpf := pf64_any HT.out hlo m (by omega) x hxr (sgn neg) hsg
            have HSG := Lib.hid hsg
            cases tr with
            | false =>
              have HM := Lib.hid (HR2.out.1 rfl)
              have hex := ex_any HT.out m (by omega) x hxr neg
              obtain ⟨sg, hsgv⟩ : ∃ sg, sgn neg = sg := ⟨_, rfl⟩
              rw [hsgv] at hshl hpf hex HR1
              clear hsgv hsg hst hesz h0 HR2
              go_wp2_with fail
              refine hb64.mono ?_
              rintro _ wq ⟨rfl, hwq⟩
              rw [hwq]
              clear hwq hb64
              go_wp2_with fail
              refine hex.mono ?_
              rintro e wq ⟨hwq, ⟨hen, y, rfl⟩ | ⟨y, hes, rfl⟩⟩
              · rw [hwq]
                clear hwq hex
                have HM2 : Hid (mg tk m x false = pf64 m x) := Lib.hid (by rw [HM.out, hen])
                clear hen
                go_wp2_with fail
                refine hpf.mono ?_
                rintro _ w2 ⟨rfl, hb2⟩
                have HB2 := Lib.hid hb2
                clear hb2 hpf
                rw [HM2.out] at HR1
                cases herr : (pf64 m x).2 with
                | true =>
                  rw [herr, if_pos rfl] at HR1
                  clear herr
                  have hev : ErrV true = .iface 157 (.int .i64 1) := rfl
                  go_wp2_with fail
                  refine bodyPost_ret (results_t3 rfl _ _ _) rfl ?_
                  exact ⟨HB2.out, .inr ⟨_, _, _, .inl rfl, HR1.out, rfl⟩⟩
                | false =>
                  rw [herr, if_neg (by decide)] at HR1
                  clear herr
                  have hev : ErrV false = .nilIface := rfl
                  go_wp2_with fail
                  refine bodyPost_ret (results_t3 rfl _ _ _) rfl ?_
                  exact ⟨HB2.out, .inl ⟨_, _, HR1.out, rfl⟩⟩
              · rw [hwq]
                clear hwq hex hpf
                have HR3 : Hid (res = some (y + sg, n)) := Lib.hid (by rw [HR1.out, HM.out, hes]; rfl)
                clear hes
                go_wp2_with fail
                refine bodyPost_ret (results_t3 rfl _ _ _) rfl ?_
                exact ⟨Below.refl _ _, .inl ⟨_, _, HR3.out, rfl⟩⟩
            | true =>
              have HM := Lib.hid (HR2.out.2 rfl)
              have hpf2 := fun (w2 : World) (hb : Below w.heap.size w w2) => pf64_any (HT.out.mono hlo hb) (Nat.le_trans hlo hb.size) (m + 1) (by omega) x hxr (sgn neg) hsg
              have hfe := feq_sg neg (pf64_fi (d := m) (by omega) hxr) (pf64_fi (d := m + 1) (by omega) hxr)
              have HPF2 := Lib.hid hpf2
              have hm1w : IntKind.u64.wrap ((m : Int) + 1) = ((m + 1 : Nat) : Int) := by
                rw [show ((m + 1 : Nat) : Int) = (m : Int) + 1 from by omega]
                exact IntWalk.u64_in _ (by omega)
              obtain ⟨m1, hm1⟩ : ∃ m1, m + 1 = m1 := ⟨_, rfl⟩
              obtain ⟨fb, hfb⟩ : ∃ b, feq (pf64 m x).1 (pf64 (m + 1) x).1 = b := ⟨_, rfl⟩
              have HM3 : Hid (mg tk m x true = if fb = true then pf64 m x else (match setF tk with | some s => (fbW (fbT s), (fbT s).2.2) | none => (0, true))) := Lib.hid (by rw [HM.out, hfb])
              rw [hfb] at hfe
              rw [hm1] at hm1w hfe HPF2
              obtain ⟨f, hf⟩ : ∃ f, (pf64 m x).1 + sgn neg = f := ⟨_, rfl⟩
              obtain ⟨f1, hf1⟩ : ∃ f, (pf64 m1 x).1 + sgn neg = f := ⟨_, rfl⟩
              rw [hf, hf1] at hfe
              rw [hf] at hpf
              rw [hf1] at HPF2
              have HF := Lib.hid hf
              have HNEG : Hid (sgn neg = if neg = true then 9223372036854775808 else 0) := Lib.hid rfl
              obtain ⟨sg, hsgv⟩ : ∃ sg, sgn neg = sg := ⟨_, rfl⟩
              rw [hsgv] at hshl hpf HPF2 HR1 HNEG HF
              clear hsgv hsg h0 HR2 HM hfb hm1 hf hf1 hpf2
              go_wp2_with fail
              refine hb64.mono ?_
              rintro _ wq ⟨rfl, hwq⟩
              rw [hwq]
              clear hwq hb64
              go_wp2_with fail
              refine hpf.mono ?_
              rintro _ w2 ⟨rfl, hb2⟩
              have hpf3 := HPF2.out w2 hb2
              have HB2 := Lib.hid hb2
              clear hb2 hpf HPF2
              go_wp2_with fail
              refine hpf3.mono ?_
              rintro _ w3 ⟨rfl, hb3⟩
              have HB3 := Lib.hid (HB2.out.trans (hb3.mono HB2.out.size))
              clear hb3 hpf3 HB2
              cases fb with
              | true =>
                have HM4 : Hid (mg tk m x true = pf64 m x) := Lib.hid (HM3.out.trans (if_pos rfl))
                rw [HM4.out, HF.out] at HR1
                cases herr : (pf64 m x).2 with
                | true =>
                  rw [herr, if_pos rfl] at HR1
                  clear herr
                  have hev : ErrV true = .iface 157 (.int .i64 1) := rfl
                  go_wp2_with fail
                  refine bodyPost_ret (results_t3 rfl _ _ _) rfl ?_
                  exact ⟨HB3.out, .inr ⟨_, _, _, .inl rfl, HR1.out, rfl⟩⟩
                | false =>
                  rw [herr, if_neg (by decide)] at HR1
                  clear herr
                  have hev : ErrV false = .nilIface := rfl
                  go_wp2_with fail
                  refine bodyPost_ret (results_t3 rfl _ _ _) rfl ?_
                  exact ⟨HB3.out, .inl ⟨_, _, HR1.out, rfl⟩⟩
              | false =>
                have HM4 : Hid (mg tk m x true = (match setF tk with | some s => (fbW (fbT s), (fbT s).2.2) | none => (0, true))) := Lib.hid (HM3.out.trans (if_neg (by decide)))
                have HT3 := Lib.hid (HT.out.mono hlo HB3.out)
                have hs3 := HB3.out.size
                obtain ⟨g, hg⟩ : ∃ g, w3.heap.size = g := ⟨_, rfl⟩
                have hrow : Row (w3.alloc (.cells Z192 192)) g Z192 192 := by rw [← hg]; exact Row.new w3 _ 192
                have hba : Below g w3 (w3.alloc (.cells Z192 192)) := by rw [← hg]; exact ((Mod.refl (fun _ => False) w3).alloc _).below (fun _ _ h => h)
                have HBA := Lib.hid (HB3.out.trans (hba.mono (by omega)))
                have HDC : Hid (Dc (w3.alloc (.cells Z192 192)) g 0 0 0 false false) := Lib.hid ⟨Z192, hrow, DC_zero⟩
                have HSZ : Hid ((w3.alloc (.cells Z192 192)).heap.size = g + 1) := Lib.hid (by simp [hg])
                have HTA := Lib.hid (HT3.out.mono (base := g) (by omega) hba)
                have HG := Lib.hid hg
                clear hrow hba hg
                generalize ErrV (pf64 m x).2 = ev at *
                generalize ErrV (pf64 m1 x).2 = ev1 at *
                go_wp2_with (first | (refine wpList_alloc_z rfl 192 rfl Z192 (zero192 _) ?_))
                rw [HG.out]
                generalize w3.alloc (.cells Z192 192) = w4 at *
                refine (set_any (s.extract 0 n) neg tk w4 hesz HPRE.out HTK.out HDC.out).mono ?_
                rintro e w5 ⟨hm5, ⟨hsn, rfl⟩ | ⟨ds, hss, rfl, hdw⟩⟩
                · have HB5 : Hid (Below w.heap.size w w5) := Lib.hid (HBA.out.trans (hm5.below_of (by have := HBA.out.size; omega) (fun k hk e => by have := HG.out; omega)))
                  have HR5 : Hid (res = none) := Lib.hid (by rw [HR1.out, HM4.out, hsn]; rfl)
                  clear hsn hm5
                  go_wp2_with fail
                  refine bodyPost_ret (results_t3 rfl _ _ _) rfl ?_
                  exact ⟨HB5.out, .inr ⟨_, _, _, .inr rfl, HR5.out, rfl⟩⟩
                · have hB5 : Below w.heap.size w w5 := HBA.out.trans (hm5.below_of (by have := HBA.out.size; omega) (fun k hk e => by have := HG.out; omega))
                  have HB5 := Lib.hid hB5
                  have HT5 := Lib.hid (HTA.out.mod (by have := HG.out; omega) (by rw [HSZ.out]; have := HG.out; omega) hm5)
                  have hs5 : g + 1 ≤ w5.heap.size := by rw [← HSZ.out]; exact hm5.size
                  have hto : tk.length ≤ 3000 := by
                    have := congrArg List.length HPRE.out
                    rw [size_list] at this
                    cases neg <;> simp at this <;> omega
                  obtain ⟨hok5, hd5⟩ := setF_ok hss hto
                  have hfb := fb_any (s := ds) HT5.out (by have := HG.out; omega) (by have := HG.out; omega) hdw hok5 ⟨by omega, by omega⟩
                  have HR5 : Hid (res = if (fbT ds).2.2 = true then none else some (fbW (fbT ds) + sg, n)) := Lib.hid (by rw [HR1.out, HM4.out, hss])
                  obtain ⟨ov, hov⟩ : ∃ b, (fbT ds).2.2 = b := ⟨_, rfl⟩
                  obtain ⟨xv, hxv⟩ : ∃ v, fbW (fbT ds) + sg = v := ⟨_, rfl⟩
                  rw [hov, hxv] at HR5
                  have hfb2 : Calls Tryz.prog 118 #[.pointer (some ⟨g, 0, none⟩), .pointer (some ⟨10, 0, none⟩)] w5 fun e w' => Mod (· = g) w5 w' ∧ e = .returned (.tuple #[.int .u64 (xv : Nat), .bool ov]) := hfb.mono fun e w' ⟨h1, h2⟩ => ⟨h1, by rw [h2, hov, ← hxv, HNEG.out]⟩
                  clear hss hm5 hdw hok5 hd5 hfb hov hxv hB5 hto
                  go_wp2_with fail
                  refine hfb2.mono ?_
                  rintro e w6 ⟨hm6, rfl⟩
                  have HB6 : Hid (Below w.heap.size w w6) := Lib.hid (HB5.out.trans (hm6.below_of (by have := HB5.out.size; omega) (fun k hk e => by have := HG.out; omega)))
                  clear hm6 hfb2
                  cases ov with
                  | true =>
                    rw [if_pos rfl] at HR5
                    go_wp2_with fail
                    refine bodyPost_ret (results_t3 rfl _ _ _) rfl ?_
                    exact ⟨HB6.out, .inr ⟨_, _, _, .inl rfl, HR5.out, rfl⟩⟩
                  | false =>
                    rw [if_neg (by decide)] at HR5
                    go_wp2_with fail
                    refine bodyPost_ret (results_t3 rfl _ _ _) rfl ?_
                    exact ⟨HB6.out, .inl ⟨_, _, HR5.out, rfl⟩⟩
  · rw [hwq]
    clear hwq hspc hrf
    have HR0 : Hid (res = some (v, n)) := Lib.hid (by rw [← HRES.out, atF, hsf])
    clear hsf
    go_wp2_with fail
    refine bodyPost_ret (results_t3 rfl _ _ _) rfl ?_
    exact ⟨Below.refl _ _, .inl ⟨_, _, HR0.out, rfl⟩⟩
end Go.Proofs.YtadpeebcombjnaaGreatDoor
namespace Go.Proofs.YtadpeebcombjnaaGreatDoor
open Go Go.Proofs Go.RowKit Go.Lib
set_option maxRecDepth 100000
theorem prefix_any {s : ByteArray} {w : World} {r : Option (Nat × Nat)} (h : Calls Tryz.prog 104 #[.string s] w (AtPost r w)) : Calls Tryz.prog 93 #[.string s, .int .i64 64] w (AtPost r w) := by
  have H := Lib.hid h
  go_enter Tryz.func93, Tryz.ntmps93
  go_wp2_with fail
  refine H.out.mono ?_
  rintro e w2 ⟨hb, ⟨y, n, hr, rfl⟩ | ⟨y, n, c, hc, hr, rfl⟩⟩
  · have HB := Lib.hid hb
    have HR := Lib.hid hr
    clear hb hr h
    go_wp2_with fail
    refine bodyPost_ret (results_t3 rfl _ _ _) rfl ?_
    exact ⟨HB.out, .inl ⟨y, n, HR.out, rfl⟩⟩
  · have HB := Lib.hid hb
    have HR := Lib.hid hr
    have HC := Lib.hid hc
    clear hb hr h hc
    go_wp2_with fail
    refine bodyPost_ret (results_t3 rfl _ _ _) rfl ?_
    exact ⟨HB.out, .inr ⟨y, n, c, HC.out, HR.out, rfl⟩⟩
/-- The whole text has to be taken. -/
def whole (k : Nat) (r : Option (Nat × Nat)) : Option Nat := r.bind fun q => if q.2 = k then some q.1 else none
def IpPost (r : Option Nat) (w : World) (e : Ending) (w' : World) : Prop := Below w.heap.size w w' ∧
  ((∃ y, r = some y ∧ e = .returned (.tuple #[.float .f64 y, .nilIface])) ∨ (∃ (y : Nat) (c : Int), (c = 1 ∨ c = 2) ∧ r = none ∧ e = .returned (.tuple #[.float .f64 y, .iface 157 (.int .i64 c)])))
theorem iparse_any {s : ByteArray} {w : World} {r : Option (Nat × Nat)} (h : Calls Tryz.prog 104 #[.string s] w (AtPost r w)) : Calls Tryz.prog 79 #[.string s, .int .i64 64] w (IpPost (whole s.size r) w) := by
  have H := Lib.hid (prefix_any h)
  go_enter Tryz.func79, Tryz.ntmps79
  go_wp2_with fail
  refine H.out.mono ?_
  rintro e w2 ⟨hb, ⟨y, n, hr, rfl⟩ | ⟨y, n, c, hc, hr, rfl⟩⟩
  · have HB := Lib.hid hb
    have HR := Lib.hid hr
    clear hb hr h
    by_cases hn : n = s.size
    · have hnb : ((n : Int) != (s.size : Int)) = false := by rw [bne_eq_false_iff_eq]; omega
      have HW : Hid (whole s.size r = some y) := Lib.hid (by rw [HR.out]; exact if_pos hn)
      clear hn
      go_wp2_with fail
      go_ret2
      exact ⟨HB.out, .inl ⟨y, HW.out, rfl⟩⟩
    · have hnb : ((n : Int) != (s.size : Int)) = true := by rw [bne_iff_ne]; omega
      have HW : Hid (whole s.size r = none) := Lib.hid (by rw [HR.out]; exact if_neg hn)
      clear hn
      go_wp2_with fail
      go_ret2
      exact ⟨HB.out, .inr ⟨_, _, .inr rfl, HW.out, rfl⟩⟩
  · have HB := Lib.hid hb
    have HW : Hid (whole s.size r = none) := Lib.hid (by rw [hr]; rfl)
    have HC := Lib.hid hc
    clear hb hr h hc
    by_cases hn : n = (s.size : Int)
    · have hnb : (n != (s.size : Int)) = false := by rw [bne_eq_false_iff_eq]; exact hn
      clear hn
      go_wp2_with fail
      go_ret2
      exact ⟨HB.out, .inr ⟨_, _, HC.out, HW.out, rfl⟩⟩
    · have hnb : (n != (s.size : Int)) = true := by rw [bne_iff_ne]; exact hn
      clear hn
      go_wp2_with fail
      go_ret2
      exact ⟨HB.out, .inr ⟨_, _, .inr rfl, HW.out, rfl⟩⟩
end Go.Proofs.YtadpeebcombjnaaGreatDoor
