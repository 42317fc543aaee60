/- The reference's comparison of points with the same numbers. -/
import Derived.Test.YtadpeebcombjnaaGreatDoorSKSL
namespace Go.Proofs.YtadpeebcombjnaaGreatDoor
open Go Go.Proofs Go.RowKit Go.Lib
set_option maxRecDepth 100000
set_option maxHeartbeats 4000000 in
theorem sameNums_any {w : World} {A B : Nat} {va vb : Value} {xs : List Nat} (h4 : xs.length ≤ 4) (ha : w.ownsRow A 38 1 va xs.length (xs.map fl)) (hb : w.ownsRow B 38 1 vb xs.length (xs.map fl)) :
    Calls Tryz.prog 22 #[va, vb] w fun e w' => e = .returned (.bool true) ∧ ∃ k, w' = w.drewN k := by
  by_cases h0 : xs.length = 0
  · rw [h0] at ha hb
    rcases slice_of_own ha with ⟨rfl, _⟩ | ⟨ga, ca, rfl, _⟩ <;> rcases slice_of_own hb with ⟨rfl, _⟩ | ⟨gb, cb, rfl, _⟩
    all_goals
      clear ha hb
      go_enter Tryz.func22, Tryz.ntmps22
      go_wp2_with fail
      refine wp_loop_rounds 1 ?_
      rw [rounds_succ]
      go_wp2_with fail
      go_ret
      exact ⟨rfl, 0, rfl⟩
  · obtain ⟨ga, ca, rfl, _, _⟩ := ha.form (by omega)
    obtain ⟨gb, cb, rfl, _, _⟩ := hb.form (by omega)
    have hca : ∀ j (hj : j < xs.length), w.cell? ⟨ga, j, none⟩ = some (.float .f64 xs[j]) := fun j hj => by
      have := ha.cells rfl j (fl xs[j]) (by rw [List.getElem?_map, List.getElem?_eq_getElem hj]; rfl)
      have e : (⟨ga, 0, none⟩ : Addr).add j = ⟨ga, j, none⟩ := by unfold Addr.add; split <;> simp_all
      rw [e] at this; exact this
    have hcb : ∀ j (hj : j < xs.length), w.cell? ⟨gb, j, none⟩ = some (.float .f64 xs[j]) := fun j hj => by
      have := hb.cells rfl j (fl xs[j]) (by rw [List.getElem?_map, List.getElem?_eq_getElem hj]; rfl)
      have e : (⟨gb, 0, none⟩ : Addr).add j = ⟨gb, j, none⟩ := by unfold Addr.add; split <;> simp_all
      rw [e] at this; exact this
    have HCA := Lib.hid hca
    have HCB := Lib.hid hcb
    clear ha hb hca hcb
    obtain ⟨n, hn⟩ : ∃ n, xs.length = n := ⟨_, rfl⟩
    rw [hn] at h0 h4 ⊢
    have h1 := bits_call
    go_enter Tryz.func22, Tryz.ntmps22
    go_wp2_with fail
    go_loopg [5, 6, 14] n (fun gh i x k wr => ∃ m q : Nat, m + gh = n ∧ k = .int .i64 m ∧ wr = w.drewN q)
    case atStart => exact ⟨0, 0, by omega, rfl, rfl⟩
    case round =>
      obtain ⟨m, q, hm, rfl, rfl⟩ := hrel
      by_cases hlt : m < n
      · have c1 := HCA.out m (by omega)
        have c2 := HCB.out m (by omega)
        generalize xs[m]'(by omega) = x at c1 c2
        go_wp2_with fail
        go_quiet (fail)
        go_wp2_with fail
        go_roundg (n - (m + 1))
        case measure => omega
        case rel => exact ⟨m + 1, _, by omega, by go_num, rfl⟩
      · obtain rfl : m = n := by omega
        go_wp2_with fail
        go_ret
        exact ⟨rfl, q, rfl⟩
theorem sameGeoms_any (w : World) : Calls Tryz.prog 23 #[.slice none 0 0, .slice none 0 0] w fun e w' => e = .returned (.bool true) ∧ w' = w := by
  go_enter Tryz.func23, Tryz.ntmps23
  go_wp2_with fail
  refine wp_loop_rounds 1 ?_
  rw [rounds_succ]
  go_wp2_with fail
  go_ret
  exact ⟨rfl, rfl⟩
set_option maxHeartbeats 4000000 in
theorem sameGeom_any {w : World} {A B d : Nat} {va vb : Value} {xs : List Nat} (h4 : xs.length ≤ 4) (ha : w.ownsRow A 38 1 va xs.length (xs.map fl)) (hb : w.ownsRow B 38 1 vb xs.length (xs.map fl)) :
    Calls Tryz.prog 11 #[.agg #[.int .i64 1, .int .i64 (d : Int), va, .slice none 0 0], .agg #[.int .i64 1, .int .i64 (d : Int), vb, .slice none 0 0]] w fun e w' => e = .returned (.bool true) ∧ Below w.heap.size w w' := by
  obtain ⟨aa, la, ca, rfl⟩ := own_slice ha
  obtain ⟨ab, lb, cb, rfl⟩ := own_slice hb
  obtain ⟨V, hV⟩ : ∃ V, w.heap.size = V := ⟨_, rfl⟩
  have hra : Row ((w.alloc (.cells #[.int .i64 1, .int .i64 (d : Int), .slice aa la ca, .slice none 0 0] 33)).alloc (.cells #[.int .i64 1, .int .i64 (d : Int), .slice ab lb cb, .slice none 0 0] 33)) V #[.int .i64 1, .int .i64 (d : Int), .slice aa la ca, .slice none 0 0] 33 := by rw [← hV]; exact (Row.new w _ 33).alloc _
  have hrb : Row ((w.alloc (.cells #[.int .i64 1, .int .i64 (d : Int), .slice aa la ca, .slice none 0 0] 33)).alloc (.cells #[.int .i64 1, .int .i64 (d : Int), .slice ab lb cb, .slice none 0 0] 33)) (V + 1) #[.int .i64 1, .int .i64 (d : Int), .slice ab lb cb, .slice none 0 0] 33 := by rw [← hV]; exact heap_alloc2_new w _ _
  have hbl : Below w.heap.size w ((w.alloc (.cells #[.int .i64 1, .int .i64 (d : Int), .slice aa la ca, .slice none 0 0] 33)).alloc (.cells #[.int .i64 1, .int .i64 (d : Int), .slice ab lb cb, .slice none 0 0] 33)) := (((Mod.refl (fun _ => False) w).alloc _).alloc _).below (fun _ _ h => h)
  have hs := sameNums_any h4 (own_below ha hbl (Nat.le_refl _)) (own_below hb hbl (Nat.le_refl _))
  have HB := Lib.hid hbl
  have p0 : ((w.alloc (.cells #[.int .i64 1, .int .i64 (d : Int), .slice aa la ca, .slice none 0 0] 33)).alloc (.cells #[.int .i64 1, .int .i64 (d : Int), .slice ab lb cb, .slice none 0 0] 33)).cell? ⟨V, 0, none⟩ = some (.int .i64 1) := hra.cell rfl
  have p1 : ((w.alloc (.cells #[.int .i64 1, .int .i64 (d : Int), .slice aa la ca, .slice none 0 0] 33)).alloc (.cells #[.int .i64 1, .int .i64 (d : Int), .slice ab lb cb, .slice none 0 0] 33)).cell? ⟨V, 1, none⟩ = some (.int .i64 (d : Int)) := hra.cell rfl
  have p2 : ((w.alloc (.cells #[.int .i64 1, .int .i64 (d : Int), .slice aa la ca, .slice none 0 0] 33)).alloc (.cells #[.int .i64 1, .int .i64 (d : Int), .slice ab lb cb, .slice none 0 0] 33)).cell? ⟨V, 2, none⟩ = some (.slice aa la ca) := hra.cell rfl
  have p3 : ((w.alloc (.cells #[.int .i64 1, .int .i64 (d : Int), .slice aa la ca, .slice none 0 0] 33)).alloc (.cells #[.int .i64 1, .int .i64 (d : Int), .slice ab lb cb, .slice none 0 0] 33)).cell? ⟨V, 3, none⟩ = some (.slice none 0 0) := hra.cell rfl
  have q0 : ((w.alloc (.cells #[.int .i64 1, .int .i64 (d : Int), .slice aa la ca, .slice none 0 0] 33)).alloc (.cells #[.int .i64 1, .int .i64 (d : Int), .slice ab lb cb, .slice none 0 0] 33)).cell? ⟨(V + 1), 0, none⟩ = some (.int .i64 1) := hrb.cell rfl
  have q1 : ((w.alloc (.cells #[.int .i64 1, .int .i64 (d : Int), .slice aa la ca, .slice none 0 0] 33)).alloc (.cells #[.int .i64 1, .int .i64 (d : Int), .slice ab lb cb, .slice none 0 0] 33)).cell? ⟨(V + 1), 1, none⟩ = some (.int .i64 (d : Int)) := hrb.cell rfl
  have q2 : ((w.alloc (.cells #[.int .i64 1, .int .i64 (d : Int), .slice aa la ca, .slice none 0 0] 33)).alloc (.cells #[.int .i64 1, .int .i64 (d : Int), .slice ab lb cb, .slice none 0 0] 33)).cell? ⟨(V + 1), 2, none⟩ = some (.slice ab lb cb) := hrb.cell rfl
  have q3 : ((w.alloc (.cells #[.int .i64 1, .int .i64 (d : Int), .slice aa la ca, .slice none 0 0] 33)).alloc (.cells #[.int .i64 1, .int .i64 (d : Int), .slice ab lb cb, .slice none 0 0] 33)).cell? ⟨(V + 1), 3, none⟩ = some (.slice none 0 0) := hrb.cell rfl
  clear ha hb hra hrb hbl
  go_enter Tryz.func11, Tryz.ntmps11
  go_upto_region 1 with (fail)
  generalize ((w.alloc (.cells #[.int .i64 1, .int .i64 (d : Int), .slice aa la ca, .slice none 0 0] 33)).alloc (.cells #[.int .i64 1, .int .i64 (d : Int), .slice ab lb cb, .slice none 0 0] 33)) = W at *
  go_wp2_with fail
  go_at_call 22
  refine hs.mono ?_
  rintro e w2 ⟨rfl, k, rfl⟩
  have hg := sameGeoms_any (W.drewN k)
  go_wp2_with fail
  go_at_call 23
  refine hg.mono ?_
  rintro _ wq ⟨rfl, rfl⟩
  go_wp2_with fail
  go_ret
  exact ⟨rfl, HB.out.trans ⟨rfl, rfl, rfl, Nat.le_refl _, fun _ _ => rfl⟩⟩
end Go.Proofs.YtadpeebcombjnaaGreatDoor
