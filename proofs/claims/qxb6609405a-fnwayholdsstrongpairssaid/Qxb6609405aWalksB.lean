/-
  THE WALK over the law: FnWayHoldsStrongPairs returns true.
-/
import Derived.Test.Qxb6609405aWalksA
import Derived.Deep.Light
namespace Go.Proofs.Qxb6609405a
open Go.RowKit

theorem law_skip (a0 a1 a2 a3 a4 a5 a6 a7 a8 a9 : Int) (w : World) (h : a2 < a1 ∨ a3 < a4 ∨ a7 < a6 ∨ a8 < a9) :
    Calls Try.prog 3 #[.int .i64 a0, .int .i64 a1, .int .i64 a2, .int .i64 a3, .int .i64 a4, .int .i64 a5, .int .i64 a6, .int .i64 a7, .int .i64 a8, .int .i64 a9] w fun e w' => e = .returned (.bool true) ∧ Below w.heap.size w w' := by
  by_cases h1 : a2 < a1
  · go_enter Try.func3, Try.ntmps3
    go_wp2
    go_ret
    exact ⟨rfl, Below.refl _ _⟩
  · by_cases h2 : a3 < a4
    · go_enter Try.func3, Try.ntmps3
      go_wp2
      go_ret
      exact ⟨rfl, Below.refl _ _⟩
    · by_cases h3 : a7 < a6
      · go_enter Try.func3, Try.ntmps3
        go_wp2
        go_ret
        exact ⟨rfl, Below.refl _ _⟩
      · have h4 : a8 < a9 := by omega
        clear h
        go_enter Try.func3, Try.ntmps3
        go_wp2
        go_ret
        exact ⟨rfl, Below.refl _ _⟩

theorem ret_bool {b : Bool} (h : b = true) : Ending.returned (.bool b) = .returned (.bool true) := by rw [h]
theorem bkeep {w x y : World} (h : Below w.heap.size w x) (hb : Below x.heap.size x y) : Below w.heap.size w y := h.trans (hb.mono h.size)
theorem lkeep {b : Nat} {x y : World} (h : b < x.heap.size) (hb : Below x.heap.size x y) : b < y.heap.size := Nat.lt_of_lt_of_le h hb.size
theorem bkeepd {w x y : World} (h : Below w.heap.size w x) (hb : Below x.drew.heap.size x.drew y) : Below w.heap.size w y := bkeep (x := x.drew) h.drew hb
theorem lkeepd {b : Nat} {x y : World} (h : b < x.heap.size) (hb : Below x.drew.heap.size x.drew y) : b < y.heap.size := lkeep (x := x.drew) h hb
theorem ckeep {b o : Nat} {v : Value} {x y : World} (h : b < x.heap.size) (hc : x.cell? ⟨b, o, none⟩ = some v) (hb : Below x.heap.size x y) : y.cell? ⟨b, o, none⟩ = some v := (hb.cell (p := ⟨b, o, none⟩) h).trans hc

theorem ckeepd {b o : Nat} {v : Value} {x y : World} (h : b < x.heap.size) (hc : x.cell? ⟨b, o, none⟩ = some v) (hb : Below x.drew.heap.size x.drew y) : y.cell? ⟨b, o, none⟩ = some v := ckeep (x := x.drew) h hc hb

set_option maxHeartbeats 2000000 in
theorem law_run (a0 a1 a2 a3 a4 a5 a6 a7 a8 a9 : Int) (w : World) (h1 : a1 ≤ a2) (h2 : a4 ≤ a3) (h3 : a6 ≤ a7) (h4 : a9 ≤ a8) :
    Calls Try.prog 3 #[.int .i64 a0, .int .i64 a1, .int .i64 a2, .int .i64 a3, .int .i64 a4, .int .i64 a5, .int .i64 a6, .int .i64 a7, .int .i64 a8, .int .i64 a9] w fun e w' => e = .returned (.bool true) ∧ Below w.heap.size w w' := by
  go_enter Try.func3, Try.ntmps3
  go_wp2_with fail
  refine (newUse_any a0 a1 a2 a3 a4 w).mono ?_
  rintro e w1 ⟨rfl, hb1⟩
  have B1 : Hid (Below w.heap.size w w1) := hb1
  clear hb1
  go_wp2_with fail
  refine (newUse_any a5 a6 a7 a8 a9 _).mono ?_
  rintro e w2 ⟨rfl, hb2⟩
  have hb2' : Below (w1.heap.size + 1) (w1.alloc (.cells #[.int .i64 a0, .int .i64 a1, .int .i64 a2, .int .i64 a3, .int .i64 a4] 23)) w2 := by simpa using hb2
  have hs2 : w1.heap.size + 1 ≤ w2.heap.size := by have := hb2'.size; simp at this; omega
  have hBW : Below w.heap.size w (w2.alloc (.cells #[.int .i64 a5, .int .i64 a6, .int .i64 a7, .int .i64 a8, .int .i64 a9] 23)) := ((B1.out.alloc B1.out.size _).trans (hb2'.mono (by have := B1.out.size; omega))).alloc (by have := B1.out.size; omega) _
  have l1 : w1.heap.size < (w2.alloc (.cells #[.int .i64 a5, .int .i64 a6, .int .i64 a7, .int .i64 a8, .int .i64 a9] 23)).heap.size := by simp; omega
  have l2 : w2.heap.size < (w2.alloc (.cells #[.int .i64 a5, .int .i64 a6, .int .i64 a7, .int .i64 a8, .int .i64 a9] 23)).heap.size := by simp
  have u0 : (w2.alloc (.cells #[.int .i64 a5, .int .i64 a6, .int .i64 a7, .int .i64 a8, .int .i64 a9] 23)).cell? ⟨w1.heap.size, 0, none⟩ = some (.int .i64 a0) := by
    rw [World.cell?_of_block (w := w2) (Below.heap_alloc w2 _ _ (by show w1.heap.size < w2.heap.size; omega))]
    exact (hb2'.cell (p := ⟨w1.heap.size, 0, none⟩) (by show w1.heap.size < w1.heap.size + 1; omega)).trans (by simp)
  have u1 : (w2.alloc (.cells #[.int .i64 a5, .int .i64 a6, .int .i64 a7, .int .i64 a8, .int .i64 a9] 23)).cell? ⟨w1.heap.size, 1, none⟩ = some (.int .i64 a1) := by
    rw [World.cell?_of_block (w := w2) (Below.heap_alloc w2 _ _ (by show w1.heap.size < w2.heap.size; omega))]
    exact (hb2'.cell (p := ⟨w1.heap.size, 1, none⟩) (by show w1.heap.size < w1.heap.size + 1; omega)).trans (by simp)
  have u2 : (w2.alloc (.cells #[.int .i64 a5, .int .i64 a6, .int .i64 a7, .int .i64 a8, .int .i64 a9] 23)).cell? ⟨w1.heap.size, 2, none⟩ = some (.int .i64 a2) := by
    rw [World.cell?_of_block (w := w2) (Below.heap_alloc w2 _ _ (by show w1.heap.size < w2.heap.size; omega))]
    exact (hb2'.cell (p := ⟨w1.heap.size, 2, none⟩) (by show w1.heap.size < w1.heap.size + 1; omega)).trans (by simp)
  have u3 : (w2.alloc (.cells #[.int .i64 a5, .int .i64 a6, .int .i64 a7, .int .i64 a8, .int .i64 a9] 23)).cell? ⟨w1.heap.size, 3, none⟩ = some (.int .i64 a3) := by
    rw [World.cell?_of_block (w := w2) (Below.heap_alloc w2 _ _ (by show w1.heap.size < w2.heap.size; omega))]
    exact (hb2'.cell (p := ⟨w1.heap.size, 3, none⟩) (by show w1.heap.size < w1.heap.size + 1; omega)).trans (by simp)
  have u4 : (w2.alloc (.cells #[.int .i64 a5, .int .i64 a6, .int .i64 a7, .int .i64 a8, .int .i64 a9] 23)).cell? ⟨w1.heap.size, 4, none⟩ = some (.int .i64 a4) := by
    rw [World.cell?_of_block (w := w2) (Below.heap_alloc w2 _ _ (by show w1.heap.size < w2.heap.size; omega))]
    exact (hb2'.cell (p := ⟨w1.heap.size, 4, none⟩) (by show w1.heap.size < w1.heap.size + 1; omega)).trans (by simp)
  have v0 : (w2.alloc (.cells #[.int .i64 a5, .int .i64 a6, .int .i64 a7, .int .i64 a8, .int .i64 a9] 23)).cell? ⟨w2.heap.size, 0, none⟩ = some (.int .i64 a5) := by simp
  have v1 : (w2.alloc (.cells #[.int .i64 a5, .int .i64 a6, .int .i64 a7, .int .i64 a8, .int .i64 a9] 23)).cell? ⟨w2.heap.size, 1, none⟩ = some (.int .i64 a6) := by simp
  have v2 : (w2.alloc (.cells #[.int .i64 a5, .int .i64 a6, .int .i64 a7, .int .i64 a8, .int .i64 a9] 23)).cell? ⟨w2.heap.size, 2, none⟩ = some (.int .i64 a7) := by simp
  have v3 : (w2.alloc (.cells #[.int .i64 a5, .int .i64 a6, .int .i64 a7, .int .i64 a8, .int .i64 a9] 23)).cell? ⟨w2.heap.size, 3, none⟩ = some (.int .i64 a8) := by simp
  have v4 : (w2.alloc (.cells #[.int .i64 a5, .int .i64 a6, .int .i64 a7, .int .i64 a8, .int .i64 a9] 23)).cell? ⟨w2.heap.size, 4, none⟩ = some (.int .i64 a9) := by simp
  clear hb2 hb2' hs2 B1
  go_wp2_with fail
  generalize hW : w2.alloc (.cells #[.int .i64 a5, .int .i64 a6, .int .i64 a7, .int .i64 a8, .int .i64 a9] 23) = W at hBW l1 l2 u0 u1 u2 u3 u4 v0 v1 v2 v3 v4 ⊢
  clear hW
  generalize w1.heap.size = b1 at hBW l1 l2 u0 u1 u2 u3 u4 v0 v1 v2 v3 v4 ⊢
  generalize w2.heap.size = b2 at hBW l1 l2 u0 u1 u2 u3 u4 v0 v1 v2 v3 v4 ⊢
  clear w1 w2
  go_region_held3 (fun x => Below w.heap.size w x ∧ b1 < x.heap.size ∧ b2 < x.heap.size ∧ x.cell? ⟨b1, 0, none⟩ = some (.int .i64 a0) ∧ x.cell? ⟨b1, 1, none⟩ = some (.int .i64 a1) ∧ x.cell? ⟨b1, 2, none⟩ = some (.int .i64 a2) ∧ x.cell? ⟨b1, 3, none⟩ = some (.int .i64 a3) ∧ x.cell? ⟨b1, 4, none⟩ = some (.int .i64 a4) ∧ x.cell? ⟨b2, 0, none⟩ = some (.int .i64 a5) ∧ x.cell? ⟨b2, 1, none⟩ = some (.int .i64 a6) ∧ x.cell? ⟨b2, 2, none⟩ = some (.int .i64 a7) ∧ x.cell? ⟨b2, 3, none⟩ = some (.int .i64 a8) ∧ x.cell? ⟨b2, 4, none⟩ = some (.int .i64 a9))
    ((repeat' apply And.intro) <;> first | assumption | (go_simp; done) | exact Below.drew hBW)
    (first
      | (go_at_call 6; refine (way6 _).mono ?_; rintro r w3 ⟨rfl, hbw⟩; have f0 := bkeepd hBW hbw; have f1 := lkeepd l1 hbw; have f2 := lkeepd l2 hbw; have fu0 := ckeepd l1 u0 hbw; have fu1 := ckeepd l1 u1 hbw; have fu2 := ckeepd l1 u2 hbw; have fu3 := ckeepd l1 u3 hbw; have fu4 := ckeepd l1 u4 hbw; have fv0 := ckeepd l2 v0 hbw; have fv1 := ckeepd l2 v1 hbw; have fv2 := ckeepd l2 v2 hbw; have fv3 := ckeepd l2 v3 hbw; have fv4 := ckeepd l2 v4 hbw)
      | (go_at_call 5; refine (wayHoldsA a0 a1 a2 a3 a4 a5 a6 a7 a8 a9 _).mono ?_; rintro r w4 ⟨rfl, hbx⟩; have g0 := bkeep f0 hbx; have g1 := lkeep f1 hbx; have g2 := lkeep f2 hbx; have gu0 := ckeep f1 fu0 hbx; have gu1 := ckeep f1 fu1 hbx; have gu2 := ckeep f1 fu2 hbx; have gu3 := ckeep f1 fu3 hbx; have gu4 := ckeep f1 fu4 hbx; have gv0 := ckeep f2 fv0 hbx; have gv1 := ckeep f2 fv1 hbx; have gv2 := ckeep f2 fv2 hbx; have gv3 := ckeep f2 fv3 hbx; have gv4 := ckeep f2 fv4 hbx))
  clear hbw hbx hBW l1 l2 u0 u1 u2 u3 u4 v0 v1 v2 v3 v4 f0 f1 f2 fu0 fu1 fu2 fu3 fu4 fv0 fv1 fv2 fv3 fv4
  go_wp2_with fail
  go_region_held3 (fun x => Below w.heap.size w x ∧ b1 < x.heap.size ∧ b2 < x.heap.size ∧ x.cell? ⟨b1, 0, none⟩ = some (.int .i64 a0) ∧ x.cell? ⟨b1, 1, none⟩ = some (.int .i64 a1) ∧ x.cell? ⟨b1, 2, none⟩ = some (.int .i64 a2) ∧ x.cell? ⟨b1, 3, none⟩ = some (.int .i64 a3) ∧ x.cell? ⟨b1, 4, none⟩ = some (.int .i64 a4) ∧ x.cell? ⟨b2, 0, none⟩ = some (.int .i64 a5) ∧ x.cell? ⟨b2, 1, none⟩ = some (.int .i64 a6) ∧ x.cell? ⟨b2, 2, none⟩ = some (.int .i64 a7) ∧ x.cell? ⟨b2, 3, none⟩ = some (.int .i64 a8) ∧ x.cell? ⟨b2, 4, none⟩ = some (.int .i64 a9))
    ((repeat' apply And.intro) <;> first | assumption | (go_simp; done) | exact Below.drew g0)
    (first
      | (go_at_call 7; refine (way7 _).mono ?_; rintro r w5 ⟨rfl, hbw⟩; have p0 := bkeepd g0 hbw; have p1 := lkeepd g1 hbw; have p2 := lkeepd g2 hbw; have pu0 := ckeepd g1 gu0 hbw; have pu1 := ckeepd g1 gu1 hbw; have pu2 := ckeepd g1 gu2 hbw; have pu3 := ckeepd g1 gu3 hbw; have pu4 := ckeepd g1 gu4 hbw; have pv0 := ckeepd g2 gv0 hbw; have pv1 := ckeepd g2 gv1 hbw; have pv2 := ckeepd g2 gv2 hbw; have pv3 := ckeepd g2 gv3 hbw; have pv4 := ckeepd g2 gv4 hbw)
      | (go_at_call 5; refine (wayHoldsB a0 a1 a2 a3 a4 a5 a6 a7 a8 a9 _).mono ?_; rintro r w6 ⟨rfl, hbx⟩; have q0 := bkeep p0 hbx; have q1 := lkeep p1 hbx; have q2 := lkeep p2 hbx; have qu0 := ckeep p1 pu0 hbx; have qu1 := ckeep p1 pu1 hbx; have qu2 := ckeep p1 pu2 hbx; have qu3 := ckeep p1 pu3 hbx; have qu4 := ckeep p1 pu4 hbx; have qv0 := ckeep p2 pv0 hbx; have qv1 := ckeep p2 pv1 hbx; have qv2 := ckeep p2 pv2 hbx; have qv3 := ckeep p2 pv3 hbx; have qv4 := ckeep p2 pv4 hbx))
  have Q0 : Hid (Below w.heap.size w w6) := q0
  clear q0 hbw hbx g0 g1 g2 gu0 gu1 gu2 gu3 gu4 gv0 gv1 gv2 gv3 gv4 p0 p1 p2 pu0 pu1 pu2 pu3 pu4 pv0 pv1 pv2 pv3 pv4 q1 q2 qu0 qu1 qu2 qu3 qu4 qv0 qv1 qv2 qv3 qv4
  go_wp2
  have six : (¬ a1 < a8 ∧ ¬ a1 < a9 ∧ ¬ a2 < a8 ∧ ¬ a2 < a9) ∨ (a1 < a8 ∧ ¬ a1 < a9 ∧ ¬ a2 < a8 ∧ ¬ a2 < a9) ∨ (a1 < a8 ∧ a1 < a9 ∧ ¬ a2 < a8 ∧ ¬ a2 < a9) ∨
      (a1 < a8 ∧ ¬ a1 < a9 ∧ a2 < a8 ∧ ¬ a2 < a9) ∨ (a1 < a8 ∧ a1 < a9 ∧ a2 < a8 ∧ ¬ a2 < a9) ∨ (a1 < a8 ∧ a1 < a9 ∧ a2 < a8 ∧ a2 < a9) := by omega
  rcases six with ⟨hA, hB, hC, hD⟩ | ⟨hA, hB, hC, hD⟩ | ⟨hA, hB, hC, hD⟩ | ⟨hA, hB, hC, hD⟩ | ⟨hA, hB, hC, hD⟩ | ⟨hA, hB, hC, hD⟩
  all_goals
    refine wp_loop_rounds 3 ?_
    rw [rounds_succ]
    go_wp2
    refine wp_loop_rounds 3 ?_
    rw [rounds_succ]
    go_wp2
    rw [rounds_succ]
    go_wp2
    rw [rounds_succ]
    go_wp2
    rw [rounds_succ]
    go_wp2
    refine wp_loop_rounds 3 ?_
    rw [rounds_succ]
    go_wp2
    rw [rounds_succ]
    go_wp2
    rw [rounds_succ]
    go_wp2
    rw [rounds_succ]
    go_wp2
    go_ret
    refine ⟨ret_bool ?_, Q0.out⟩
    go_light
    simp <;> omega

/-- THE LAW's WALK, whatever the input. -/
theorem law_any (a0 a1 a2 a3 a4 a5 a6 a7 a8 a9 : Int) (w : World) :
    Calls Try.prog 3 #[.int .i64 a0, .int .i64 a1, .int .i64 a2, .int .i64 a3, .int .i64 a4, .int .i64 a5, .int .i64 a6, .int .i64 a7, .int .i64 a8, .int .i64 a9] w fun e w' => e = .returned (.bool true) ∧ Below w.heap.size w w' := by
  by_cases h : a2 < a1 ∨ a3 < a4 ∨ a7 < a6 ∨ a8 < a9
  · exact law_skip a0 a1 a2 a3 a4 a5 a6 a7 a8 a9 w h
  · exact law_run a0 a1 a2 a3 a4 a5 a6 a7 a8 a9 w (by omega) (by omega) (by omega) (by omega)
end Go.Proofs.Qxb6609405a
