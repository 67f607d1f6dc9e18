/-
  THE WALKS over newFlag, Flag, ZZflagNone.
-/
import Derived.Test.Qxb6609532aWalksA
namespace Go.Proofs.Qxb6609532a
open Go.RowKit

theorem newFlag_spare (C Sb s cap : Nat) (prog : ByteArray) (vF : Value) (w : World) (h : Cmd w C prog vF (.slice (some ⟨Sb, 0, none⟩) (s + 1) cap)) (hs : s + 1 ≤ cap) (hcap : cap ≤ 128) :
    Calls Try.prog 21 #[.pointer (some ⟨C, 0, none⟩)] w fun e w' => e = .returned (.pointer (some ⟨Sb, s * 17, none⟩)) ∧ w' = w.setCell ⟨C, 8, none⟩ (.slice (some ⟨Sb, 0, none⟩) s cap) := by
  obtain ⟨c2, c4, c8⟩ := h.cells
  have f8 := h.frozen 8
  have HC : Hid (Cmd w C prog vF (.slice (some ⟨Sb, 0, none⟩) (s + 1) cap)) := h
  have hne : (((s : Int) + 1) == 0) = false := by simp; omega
  clear h
  go_enter Try.func21, Try.ntmps21
  go_wp2_with fail
  refine (program_any C _ _ _ w HC.out).mono ?_
  rintro e w1 ⟨rfl, rfl⟩
  go_wp2
  go_ret
  exact ⟨rfl, rfl⟩

/-- A row of m zero flags. -/
def flagRow (m : Nat) : Obj := .cells (madeCells zeroFlag (m * 17)) 57

theorem Try.info57 : (Try.prog.info? 57).map (fun i => (i.zero, i.size, i.bytes)) = some (some (.agg zeroFlag), 17, 160) := by kernel_rfl

theorem make_flags (m : Nat) (L : Int) (hm : L = (m : Int)) (h : m ≤ 128) (W : World) :
    (Instr.makeSlice 41 (.int .i64 L) (.int .i64 L)).run Try.prog W = .ok (.slice (some ⟨W.heap.size, 0, none⟩) m m) (W.alloc (flagRow m)) := by
  obtain ⟨i, hi, hzz⟩ := Option.map_eq_some_iff.1 Try.info57
  simp only [Prod.mk.injEq] at hzz
  obtain ⟨hz, hs, hb⟩ := hzz
  subst hm
  have hr := run_make (P := Try.prog) W 41 57 i (.agg zeroFlag) Try.underlying41 hi hz .i64 .i64 (m : Int) (m : Int) (by omega) (Int.le_refl _) (by rw [hb]; omega) (by omega)
  simp only [Int.toNat_natCast, hs] at hr
  exact hr

theorem newFlag_make (C cap : Nat) (ao : Option Addr) (prog : ByteArray) (vF : Value) (w : World) (h : Cmd w C prog vF (.slice ao 0 cap)) (hcap : cap ≤ 128) :
    Calls Try.prog 21 #[.pointer (some ⟨C, 0, none⟩)] w fun e w' => ∃ s, s + 1 ≤ 128 ∧ e = .returned (.pointer (some ⟨w.heap.size, s * 17, none⟩)) ∧
      w' = ((w.setCell ⟨C, 8, none⟩ (.slice (some ⟨w.heap.size, 0, none⟩) (s + 1) (s + 1))).setCell ⟨C, 8, none⟩ (.slice (some ⟨w.heap.size, 0, none⟩) s (s + 1))).alloc (flagRow (s + 1)) := by
  obtain ⟨c2, c4, c8⟩ := h.cells
  have f8 := h.frozen 8
  have hCl := h.lt
  have HC : Hid (Cmd w C prog vF (.slice ao 0 cap)) := h
  clear h
  by_cases h1 : 2 * (cap : Int) < 8
  · obtain ⟨s, hs, hs2⟩ : ∃ s : Nat, s + 1 ≤ 128 ∧ (8 : Int) = ((s + 1 : Nat) : Int) := ⟨7, by omega, by omega⟩
    have hmk := make_flags (s + 1) (8) hs2 hs
    have hne : (((s : Int) + 1) == 0) = false := by simp; omega
    clear hs2
    go_enter Try.func21, Try.ntmps21
    go_wp2_with fail
    refine (program_any C _ _ _ w HC.out).mono ?_
    rintro e w1 ⟨rfl, rfl⟩
    go_wp2
    go_ret
    exact ⟨s, hs, rfl, rfl⟩
  by_cases h2 : 128 < 2 * (cap : Int)
  · obtain ⟨s, hs, hs2⟩ : ∃ s : Nat, s + 1 ≤ 128 ∧ (128 : Int) = ((s + 1 : Nat) : Int) := ⟨127, by omega, by omega⟩
    have hmk := make_flags (s + 1) (128) hs2 hs
    have hne : (((s : Int) + 1) == 0) = false := by simp; omega
    clear hs2
    go_enter Try.func21, Try.ntmps21
    go_wp2_with fail
    refine (program_any C _ _ _ w HC.out).mono ?_
    rintro e w1 ⟨rfl, rfl⟩
    go_wp2
    go_ret
    exact ⟨s, hs, rfl, rfl⟩
  · obtain ⟨s, hs, hs2⟩ : ∃ s : Nat, s + 1 ≤ 128 ∧ (2 * (cap : Int) : Int) = ((s + 1 : Nat) : Int) := ⟨2 * cap - 1, by omega, by omega⟩
    have hmk := make_flags (s + 1) (2 * (cap : Int)) hs2 hs
    have hne : (((s : Int) + 1) == 0) = false := by simp; omega
    clear hs2
    go_enter Try.func21, Try.ntmps21
    go_wp2_with fail
    refine (program_any C _ _ _ w HC.out).mono ?_
    rintro e w1 ⟨rfl, rfl⟩
    go_wp2
    go_ret
    exact ⟨s, hs, rfl, rfl⟩

end Go.Proofs.Qxb6609532a
