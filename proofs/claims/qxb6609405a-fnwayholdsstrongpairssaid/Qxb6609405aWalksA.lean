/-
  THE WALKS over the thin functions: ZZnewUse, the two ways' makers, their closures, (way).holds, ZZwayHolds.
-/
import Derived.Test.Qxb6609405aProg
import Derived.WalkKit
import Derived.WalkSpells
import Derived.WalkLawsBesides
import Derived.Deep.RegionWith
import Derived.Deep.RegionHeld3
import Derived.Laws.EntriesVeiled
import Derived.Outline
namespace Go.Proofs.Qxb6609405a
open Go.RowKit

theorem newUse_any (a b c d e : Int) (w : World) :
    Calls Try.prog 4 #[.int .i64 a, .int .i64 b, .int .i64 c, .int .i64 d, .int .i64 e] w fun r w' =>
      r = .returned (.agg #[.int .i64 a, .int .i64 b, .int .i64 c, .int .i64 d, .int .i64 e]) ∧ Below w.heap.size w w' := by
  go_enter Try.func4, Try.ntmps4
  go_wp2
  exact bodyPost_ret (v := .agg #[.int .i64 a, .int .i64 b, .int .i64 c, .int .i64 d, .int .i64 e]) (by simp [results, Try.results4, go_sem]) rfl ⟨rfl, (Below.refl _ _).alloc (Nat.le_refl _) _⟩

theorem c9 (a b c d e : Int) (w : World) :
    Calls Try.prog 9 #[.agg #[.int .i64 a, .int .i64 b, .int .i64 c, .int .i64 d, .int .i64 e]] w fun r w' =>
      r = .returned (.int .i64 c) ∧ w' = w.alloc (.cells #[.int .i64 a, .int .i64 b, .int .i64 c, .int .i64 d, .int .i64 e] 23) := by
  go_enter Try.func9, Try.ntmps9
  go_wp2
  go_ret
  exact ⟨rfl, rfl⟩
theorem c10 (a b c d e : Int) (w : World) :
    Calls Try.prog 10 #[.agg #[.int .i64 a, .int .i64 b, .int .i64 c, .int .i64 d, .int .i64 e]] w fun r w' =>
      r = .returned (.int .i64 d) ∧ w' = w.alloc (.cells #[.int .i64 a, .int .i64 b, .int .i64 c, .int .i64 d, .int .i64 e] 23) := by
  go_enter Try.func10, Try.ntmps10
  go_wp2
  go_ret
  exact ⟨rfl, rfl⟩
theorem c11 (a b c d e : Int) (w : World) :
    Calls Try.prog 11 #[.agg #[.int .i64 a, .int .i64 b, .int .i64 c, .int .i64 d, .int .i64 e]] w fun r w' =>
      r = .returned (.int .i64 b) ∧ w' = w.alloc (.cells #[.int .i64 a, .int .i64 b, .int .i64 c, .int .i64 d, .int .i64 e] 23) := by
  go_enter Try.func11, Try.ntmps11
  go_wp2
  go_ret
  exact ⟨rfl, rfl⟩
theorem c12 (a b c d e : Int) (w : World) :
    Calls Try.prog 12 #[.agg #[.int .i64 a, .int .i64 b, .int .i64 c, .int .i64 d, .int .i64 e]] w fun r w' =>
      r = .returned (.int .i64 e) ∧ w' = w.alloc (.cells #[.int .i64 a, .int .i64 b, .int .i64 c, .int .i64 d, .int .i64 e] 23) := by
  go_enter Try.func12, Try.ntmps12
  go_wp2
  go_ret
  exact ⟨rfl, rfl⟩

theorem way6 (w : World) : Calls Try.prog 6 #[] w fun r w' => r = .returned (.agg #[.func (.func 9) #[] #[], .func (.func 10) #[] #[]]) ∧ Below w.heap.size w w' := by
  go_enter Try.func6, Try.ntmps6
  go_wp2
  exact bodyPost_ret (v := .agg #[.func (.func 9) #[] #[], .func (.func 10) #[] #[]]) (by simp [results, Try.results6, go_sem]) rfl ⟨rfl, (Below.refl _ _).alloc (Nat.le_refl _) _⟩
theorem way7 (w : World) : Calls Try.prog 7 #[] w fun r w' => r = .returned (.agg #[.func (.func 11) #[] #[], .func (.func 12) #[] #[]]) ∧ Below w.heap.size w w' := by
  go_enter Try.func7, Try.ntmps7
  go_wp2
  exact bodyPost_ret (v := .agg #[.func (.func 11) #[] #[], .func (.func 12) #[] #[]]) (by simp [results, Try.results7, go_sem]) rfl ⟨rfl, (Below.refl _ _).alloc (Nat.le_refl _) _⟩

set_option maxHeartbeats 1000000 in
theorem holdsA (a b c d e a' b' c' d' e' : Int) (w : World) :
    Calls Try.prog 8 #[.agg #[.func (.func 9) #[] #[], .func (.func 10) #[] #[]], .agg #[.int .i64 a, .int .i64 b, .int .i64 c, .int .i64 d, .int .i64 e], .agg #[.int .i64 a', .int .i64 b', .int .i64 c', .int .i64 d', .int .i64 e']] w fun r w' =>
      r = .returned (.bool (decide (c < d'))) ∧ Below w.heap.size w w' := by
  go_enter Try.func8, Try.ntmps8
  go_wp2_with fail
  go_region_held3 (fun x => x.cell? ⟨w.heap.size, 0, none⟩ = some (.func (.func 9) #[] #[]) ∧ x.cell? ⟨w.heap.size, 1, none⟩ = some (.func (.func 10) #[] #[]) ∧ x.cell? ⟨w.heap.size + 1, 0, none⟩ = some (.int .i64 a) ∧ x.cell? ⟨w.heap.size + 1, 1, none⟩ = some (.int .i64 b) ∧ x.cell? ⟨w.heap.size + 1, 2, none⟩ = some (.int .i64 c) ∧ x.cell? ⟨w.heap.size + 1, 3, none⟩ = some (.int .i64 d) ∧ x.cell? ⟨w.heap.size + 1, 4, none⟩ = some (.int .i64 e) ∧ x.cell? ⟨w.heap.size + 1 + 1, 0, none⟩ = some (.int .i64 a') ∧ x.cell? ⟨w.heap.size + 1 + 1, 1, none⟩ = some (.int .i64 b') ∧ x.cell? ⟨w.heap.size + 1 + 1, 2, none⟩ = some (.int .i64 c') ∧ x.cell? ⟨w.heap.size + 1 + 1, 3, none⟩ = some (.int .i64 d') ∧ x.cell? ⟨w.heap.size + 1 + 1, 4, none⟩ = some (.int .i64 e')) ((repeat' apply And.intro) <;> first | (go_simp; done) | (go_keep; done))
    (first
      | (go_at_call 9; refine (c9 a b c d e _).mono ?_; rintro r w' ⟨rfl, rfl⟩)
      | (go_at_call 10; refine (c10 a' b' c' d' e' _).mono ?_; rintro r w' ⟨rfl, rfl⟩))
  go_wp2
  go_ret
  refine ⟨rfl, ?_⟩
  repeat (first | exact Below.refl _ _ | refine Below.drew ?_ | refine Below.alloc ?_ (by simp <;> omega) _)

theorem wayHoldsA (a b c d e a' b' c' d' e' : Int) (w : World) :
    Calls Try.prog 5 #[.agg #[.func (.func 9) #[] #[], .func (.func 10) #[] #[]], .agg #[.int .i64 a, .int .i64 b, .int .i64 c, .int .i64 d, .int .i64 e], .agg #[.int .i64 a', .int .i64 b', .int .i64 c', .int .i64 d', .int .i64 e']] w fun r w' =>
      r = .returned (.bool (decide (c < d'))) ∧ Below w.heap.size w w' := by
  go_enter Try.func5, Try.ntmps5
  go_wp2_with fail
  refine (holdsA a b c d e a' b' c' d' e' _).mono ?_
  rintro r w1 ⟨rfl, hb⟩
  go_wp2
  go_ret
  refine ⟨rfl, ?_⟩
  exact ((((Below.refl _ _).alloc (Nat.le_refl _) _).alloc (by simp) _).alloc (by simp; omega) _).trans (hb.mono (by simp; omega))

set_option maxHeartbeats 1000000 in
theorem holdsB (a b c d e a' b' c' d' e' : Int) (w : World) :
    Calls Try.prog 8 #[.agg #[.func (.func 11) #[] #[], .func (.func 12) #[] #[]], .agg #[.int .i64 a, .int .i64 b, .int .i64 c, .int .i64 d, .int .i64 e], .agg #[.int .i64 a', .int .i64 b', .int .i64 c', .int .i64 d', .int .i64 e']] w fun r w' =>
      r = .returned (.bool (decide (b < e'))) ∧ Below w.heap.size w w' := by
  go_enter Try.func8, Try.ntmps8
  go_wp2_with fail
  go_region_held3 (fun x => x.cell? ⟨w.heap.size, 0, none⟩ = some (.func (.func 11) #[] #[]) ∧ x.cell? ⟨w.heap.size, 1, none⟩ = some (.func (.func 12) #[] #[]) ∧ x.cell? ⟨w.heap.size + 1, 0, none⟩ = some (.int .i64 a) ∧ x.cell? ⟨w.heap.size + 1, 1, none⟩ = some (.int .i64 b) ∧ x.cell? ⟨w.heap.size + 1, 2, none⟩ = some (.int .i64 c) ∧ x.cell? ⟨w.heap.size + 1, 3, none⟩ = some (.int .i64 d) ∧ x.cell? ⟨w.heap.size + 1, 4, none⟩ = some (.int .i64 e) ∧ x.cell? ⟨w.heap.size + 1 + 1, 0, none⟩ = some (.int .i64 a') ∧ x.cell? ⟨w.heap.size + 1 + 1, 1, none⟩ = some (.int .i64 b') ∧ x.cell? ⟨w.heap.size + 1 + 1, 2, none⟩ = some (.int .i64 c') ∧ x.cell? ⟨w.heap.size + 1 + 1, 3, none⟩ = some (.int .i64 d') ∧ x.cell? ⟨w.heap.size + 1 + 1, 4, none⟩ = some (.int .i64 e')) ((repeat' apply And.intro) <;> first | (go_simp; done) | (go_keep; done))
    (first
      | (go_at_call 11; refine (c11 a b c d e _).mono ?_; rintro r w' ⟨rfl, rfl⟩)
      | (go_at_call 12; refine (c12 a' b' c' d' e' _).mono ?_; rintro r w' ⟨rfl, rfl⟩))
  go_wp2
  go_ret
  refine ⟨rfl, ?_⟩
  repeat (first | exact Below.refl _ _ | refine Below.drew ?_ | refine Below.alloc ?_ (by simp <;> omega) _)

theorem wayHoldsB (a b c d e a' b' c' d' e' : Int) (w : World) :
    Calls Try.prog 5 #[.agg #[.func (.func 11) #[] #[], .func (.func 12) #[] #[]], .agg #[.int .i64 a, .int .i64 b, .int .i64 c, .int .i64 d, .int .i64 e], .agg #[.int .i64 a', .int .i64 b', .int .i64 c', .int .i64 d', .int .i64 e']] w fun r w' =>
      r = .returned (.bool (decide (b < e'))) ∧ Below w.heap.size w w' := by
  go_enter Try.func5, Try.ntmps5
  go_wp2_with fail
  refine (holdsB a b c d e a' b' c' d' e' _).mono ?_
  rintro r w1 ⟨rfl, hb⟩
  go_wp2
  go_ret
  refine ⟨rfl, ?_⟩
  exact ((((Below.refl _ _).alloc (Nat.le_refl _) _).alloc (by simp) _).alloc (by simp; omega) _).trans (hb.mono (by simp; omega))

end Go.Proofs.Qxb6609405a
