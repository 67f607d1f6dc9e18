/-
  THE WALKS over the readers of a flag, Short, program, ZZnewProgram, zzAt.
-/
import Derived.Test.Qxb6609532aProg
import Derived.Test.Qxb6609532aHeap
import Derived.WalkKit
import Derived.WalkSpells
import Derived.WalkLawsBesides
import Derived.Laws.EntriesVeiled
import Derived.Outline
namespace Go.Proofs.Qxb6609532a
open Go.RowKit

theorem name_any (b i : Nat) (nm hp key : ByteArray) (sh : Int) (w : World) (h : FlagAt w b i nm hp key sh) :
    Calls Try.prog 12 #[.pointer (some ⟨b, i * 17, none⟩)] w fun e w' => e = .returned (.string nm) ∧ w' = w := by
  obtain ⟨c0, c1, c2, c3, c4, c5, c11⟩ := h.cells
  clear h
  go_enter Try.func12, Try.ntmps12
  go_wp2
  go_ret
  exact ⟨rfl, rfl⟩

theorem key_any (b i : Nat) (nm hp key : ByteArray) (sh : Int) (w : World) (h : FlagAt w b i nm hp key sh) :
    Calls Try.prog 13 #[.pointer (some ⟨b, i * 17, none⟩)] w fun e w' => e = .returned (.string key) ∧ w' = w := by
  obtain ⟨c0, c1, c2, c3, c4, c5, c11⟩ := h.cells
  clear h
  go_enter Try.func13, Try.ntmps13
  go_wp2
  go_ret
  exact ⟨rfl, rfl⟩

theorem help_any (b i : Nat) (nm hp key : ByteArray) (sh : Int) (w : World) (h : FlagAt w b i nm hp key sh) :
    Calls Try.prog 14 #[.pointer (some ⟨b, i * 17, none⟩)] w fun e w' => e = .returned (.string hp) ∧ w' = w := by
  obtain ⟨c0, c1, c2, c3, c4, c5, c11⟩ := h.cells
  clear h
  go_enter Try.func14, Try.ntmps14
  go_wp2
  go_ret
  exact ⟨rfl, rfl⟩

theorem valueNil_any (b i : Nat) (nm hp key : ByteArray) (sh : Int) (w : World) (h : FlagAt w b i nm hp key sh) :
    Calls Try.prog 15 #[.pointer (some ⟨b, i * 17, none⟩)] w fun e w' => e = .returned (.bool true) ∧ w' = w := by
  obtain ⟨c0, c1, c2, c3, c4, c5, c11⟩ := h.cells
  clear h
  go_enter Try.func15, Try.ntmps15
  go_wp2
  go_ret
  exact ⟨rfl, rfl⟩

theorem short_any (b i : Nat) (nm hp key : ByteArray) (sh : Int) (w : World) (h : FlagAt w b i nm hp key sh) :
    Calls Try.prog 16 #[.pointer (some ⟨b, i * 17, none⟩)] w fun e w' => e = .returned (.int .i32 sh) ∧ w' = w := by
  obtain ⟨c0, c1, c2, c3, c4, c5, c11⟩ := h.cells
  clear h
  go_enter Try.func16, Try.ntmps16
  go_wp2
  go_ret
  exact ⟨rfl, rfl⟩

theorem env_any (b i : Nat) (nm hp key : ByteArray) (sh : Int) (w : World) (h : FlagAt w b i nm hp key sh) :
    Calls Try.prog 17 #[.pointer (some ⟨b, i * 17, none⟩)] w fun e w' => e = .returned (.string ByteArray.empty) ∧ w' = w := by
  obtain ⟨c0, c1, c2, c3, c4, c5, c11⟩ := h.cells
  clear h
  go_enter Try.func17, Try.ntmps17
  go_wp2
  go_ret
  exact ⟨rfl, rfl⟩

theorem placeholder_any (b i : Nat) (nm hp key : ByteArray) (sh : Int) (w : World) (h : FlagAt w b i nm hp key sh) :
    Calls Try.prog 18 #[.pointer (some ⟨b, i * 17, none⟩)] w fun e w' => e = .returned (.string ByteArray.empty) ∧ w' = w := by
  obtain ⟨c0, c1, c2, c3, c4, c5, c11⟩ := h.cells
  clear h
  go_enter Try.func18, Try.ntmps18
  go_wp2
  go_ret
  exact ⟨rfl, rfl⟩

theorem setShort_any (b i : Nat) (nm hp key : ByteArray) (sh x : Int) (w : World) (h : FlagAt w b i nm hp key sh) :
    Calls Try.prog 19 #[.pointer (some ⟨b, i * 17, none⟩), .int .i32 x] w fun e w' => e = .returned (.pointer (some ⟨b, i * 17, none⟩)) ∧ w' = w.setCell ⟨b, i * 17 + 11, none⟩ (.int .i32 x) := by
  obtain ⟨c0, c1, c2, c3, c4, c5, c11⟩ := h.cells
  have f11 := h.frozen (i * 17 + 11)
  clear h
  go_enter Try.func19, Try.ntmps19
  go_wp2
  go_ret
  exact ⟨rfl, rfl⟩

/-- The program is the command itself: it has no parent. -/
theorem program_any (C : Nat) (prog : ByteArray) (vF vS : Value) (w : World) (h : Cmd w C prog vF vS) :
    Calls Try.prog 22 #[.pointer (some ⟨C, 0, none⟩)] w fun e w' => e = .returned (.pointer (some ⟨C, 0, none⟩)) ∧ w' = w := by
  obtain ⟨c2, c4, c8⟩ := h.cells
  clear h
  go_enter Try.func22, Try.ntmps22
  go_wp2
  refine wp_loop_rounds 1 ?_
  rw [rounds_succ]
  go_wp2
  go_ret
  exact ⟨rfl, rfl⟩

theorem newProgram_any (prog : ByteArray) (w : World) :
    Calls Try.prog 7 #[.string prog] w fun e w' => e = .returned (.pointer (some ⟨w.heap.size, 0, none⟩)) ∧ Cmd w' w.heap.size prog (.slice none 0 0) (.slice none 0 0) ∧ Below w.heap.size w w' ∧ w'.heap.size = w.heap.size + 1 := by
  go_enter Try.func7, Try.ntmps7
  go_wp2
  go_ret
  exact ⟨rfl, heap_alloc_new w _, (Below.refl _ _).alloc (Nat.le_refl _) _, by simp⟩

theorem count_any (C k c : Nat) (ao : Option Addr) (prog : ByteArray) (vS : Value) (w : World) (h : Cmd w C prog (.slice ao k c) vS) :
    Calls Try.prog 10 #[.pointer (some ⟨C, 0, none⟩)] w fun e w' => e = .returned (.int .i64 k) ∧ w' = w := by
  obtain ⟨c2, c4, c8⟩ := h.cells
  clear h
  go_enter Try.func10, Try.ntmps10
  go_wp2
  go_ret
  exact ⟨rfl, rfl⟩

theorem flagAt_any (C k c g j : Nat) (v : Value) (prog : ByteArray) (vS : Value) (w : World) (h : Cmd w C prog (.slice (some ⟨g, 0, none⟩) k c) vS) (hj : j < k) (hc : w.cell? ⟨g, j, none⟩ = some v) :
    Calls Try.prog 11 #[.pointer (some ⟨C, 0, none⟩), .int .i64 j] w fun e w' => e = .returned v ∧ w' = w := by
  obtain ⟨c2, c4, c8⟩ := h.cells
  have hi : (j : Int) < (k : Int) := by omega
  clear h
  go_enter Try.func11, Try.ntmps11
  go_wp2
  go_ret
  exact ⟨rfl, rfl⟩

/-- A slice of strings of the call's own, as it is read: n elements. -/
def HeldS (w : World) (xs : List ByteArray) (ao : Option Addr) (n : Nat) : Prop :=
  n = 0 ∨ ∃ B, ao = some ⟨B, 0, none⟩ ∧ B < w.heap.size ∧ ∀ j, j < n → w.cell? ⟨B, j, none⟩ = some (.string (xs.getD j ByteArray.empty))

/-- The help of number j. -/
def hpOf (xs : List ByteArray) (n j : Nat) : ByteArray := if j < n then xs.getD j ByteArray.empty else ByteArray.empty

theorem at_any (xs : List ByteArray) (ao : Option Addr) (n c j : Nat) (w : World) (h : HeldS w xs ao n) :
    Calls Try.prog 9 #[.slice ao n c, .int .i64 j] w fun e w' => e = .returned (.string (hpOf xs n j)) ∧ w' = w := by
  by_cases hj : j < n
  · rcases h with rfl | ⟨B, rfl, hB, hc⟩
    · omega
    have hcj := hc j hj
    have hi : (j : Int) < (n : Int) := by omega
    have hh : hpOf xs n j = xs.getD j ByteArray.empty := by simp [hpOf, hj]
    rw [hh]
    clear hc hh
    go_enter Try.func9, Try.ntmps9
    go_wp2
    go_ret
    exact ⟨rfl, rfl⟩
  · have hi : ¬ (j : Int) < (n : Int) := by omega
    have hh : hpOf xs n j = ByteArray.empty := by simp [hpOf, hj]
    rw [hh]
    clear h hh
    go_enter Try.func9, Try.ntmps9
    go_wp2
    go_ret
    exact ⟨rfl, rfl⟩
end Go.Proofs.Qxb6609532a
