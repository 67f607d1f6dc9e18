/-
  THE WALKS over zzb1Clone, zzb1Same and zzBytes_FnUnansweredNoAnswerIsError.
-/
import Derived.Test.Qxb6609370aFmtProg
import Derived.WalkKit
import Derived.WalkSpells
import Derived.WalkLawsBesides
import Derived.Deep.OwnRows
import Derived.Deep.QuietTactic
import Derived.BigQuiet
import Derived.Outline
namespace Go.Proofs.Qxb6609370aFmt
open Go.RowKit

theorem Tryf.info5 : (Tryf.prog.info? 5).map (fun i => (i.zero, i.size, i.bytes)) = some (some (.int .u8 0), 1, 1) := by kernel_rfl

/-! ### zzBytes -/
theorem bytes_yes (s t : ByteArray) (ao : Option Addr) (n c : Nat) (w : World) (h : s.size + n + t.size ≤ 1048576) :
    Calls Tryf.prog 4 #[.string s, .slice ao n c, .string t] w fun e w' => e = .returned (.bool true) ∧ w' = w := by
  go_enter Tryf.func4, Tryf.ntmps4
  go_wp2
  go_ret
  exact ⟨rfl, rfl⟩

theorem bytes_no (s t : ByteArray) (ao : Option Addr) (n c : Nat) (w : World) (h : 1048576 < s.size + n + t.size) :
    Calls Tryf.prog 4 #[.string s, .slice ao n c, .string t] w fun e w' => e = .returned (.bool false) ∧ w' = w := by
  go_enter Tryf.func4, Tryf.ntmps4
  go_wp2
  all_goals (go_ret; exact ⟨rfl, rfl⟩)

/-! ### zzb1Clone -/
theorem clone_nil (w : World) :
    Calls Tryf.prog 5 #[.slice none 0 0] w fun e w' => e = .returned (.slice none 0 0) ∧ w' = w := by
  have h1 := fun w a n c n' c' => Lib.run_eql_slice_nil (P := Tryf.prog) w 22 5 a n c n' c' Tryf.underlying22
  go_enter Tryf.func5, Tryf.ntmps5
  go_wp2
  go_ret
  exact ⟨rfl, rfl⟩

/-- What the row holds behind k rounds. -/
def upTo (xs : List Int) (k j : Nat) : Value := if j < k then .int .u8 (xs.getD j 0) else .int .u8 0

theorem clone_some (xs : List Int) (b off n c : Nat) (w : World) (hn : n ≤ 1048576) (hb : b < w.heap.size)
    (hc : ∀ j, j < n → w.cell? ⟨b, off + j, none⟩ = some (.int .u8 (xs.getD j 0))) :
    Calls Tryf.prog 5 #[.slice (some ⟨b, off, none⟩) n c] w fun e w' => e = .returned (.slice (some ⟨w.heap.size, 0, none⟩) n n) ∧ Below w.heap.size w w' ∧ w'.heap.size = w.heap.size + 1 ∧
      w'.rowIs w.heap.size 5 n (upTo xs n) := by
  have h1 := fun w a n c n' c' => Lib.run_eql_slice_nil (P := Tryf.prog) w 22 5 a n c n' c' Tryf.underlying22
  have hmk := run_make_row' (P := Tryf.prog) 22 5 (.int .u8 0) 1 Tryf.underlying22 Tryf.info5 rfl .i64 .i64 n (by omega) (by omega)
  go_enter Tryf.func5, Tryf.ntmps5
  go_wp2
  clear hmk h1
  go_loopw [4] (fun i wr => ∃ k : Nat, k ≤ n ∧ i = .int .i64 k ∧ Below w.heap.size w wr ∧ wr.heap.size = w.heap.size + 1 ∧ wr.rowIs w.heap.size 5 n (upTo xs k)) (fun i _ => n - (intOf i).toNat)
  case atStart => exact ⟨0, Nat.zero_le _, rfl, (Below.refl _ _).alloc (Nat.le_refl _) _, by simp, (World.rowIs_made _ _ _ _).congr (fun i hi => by simp [upTo])⟩
  case round =>
    obtain ⟨k, hk, rfl, hbel, hsz, hrow⟩ := hrel
    by_cases hlt : k < n
    · have hcx : wr.cell? ⟨b, off + k, none⟩ = some (.int .u8 (xs.getD k 0)) := (hbel.cell (by exact hb)).trans (hc k hlt)
      have hcd : wr.cell? ⟨w.heap.size, k, none⟩ = some (.int .u8 0) := by rw [hrow.cell hlt]; simp [upTo]
      have hfz := hrow.frozen k
      have R : (wr.setCell ⟨w.heap.size, k, none⟩ (.int .u8 (xs.getD k 0))).rowIs w.heap.size 5 n (upTo xs (k + 1)) := (hrow.set k _).congr (fun j hj => by
        unfold upTo
        by_cases e : j = k
        · subst e; simp
        · have : (j < k + 1) = (j < k) := by apply propext; omega
          simp [e, this])
      have R2 := hbel.setCell (p := ⟨w.heap.size, k, none⟩) (Nat.le_refl _) (.int .u8 (xs.getD k 0))
      have R3 : (wr.setCell ⟨w.heap.size, k, none⟩ (.int .u8 (xs.getD k 0))).heap.size = w.heap.size + 1 := by simp [World.setCell, hsz]
      have HR := And.intro R2 (And.intro R3 R)
      have HH : Hid (Below w.heap.size w (wr.setCell ⟨w.heap.size, k, none⟩ (.int .u8 (xs.getD k 0))) ∧ (wr.setCell ⟨w.heap.size, k, none⟩ (.int .u8 (xs.getD k 0))).heap.size = w.heap.size + 1 ∧ (wr.setCell ⟨w.heap.size, k, none⟩ (.int .u8 (xs.getD k 0))).rowIs w.heap.size 5 n (upTo xs (k + 1))) := HR
      clear HR R R2 R3 hbel hrow hsz hc
      go_wp2
      go_roundw
      case rel => exact ⟨k + 1, by omega, by go_num, HH.out.1, HH.out.2.1, HH.out.2.2⟩
      case measure => simp [intOf]; omega
    · obtain rfl : k = n := by omega
      have HH : Hid (Below w.heap.size w wr ∧ wr.heap.size = w.heap.size + 1 ∧ wr.rowIs w.heap.size 5 k (upTo xs k)) := ⟨hbel, hsz, hrow⟩
      clear hbel hsz hrow hc
      go_wp2
      go_ret
      exact ⟨rfl, HH.out.1, HH.out.2.1, HH.out.2.2⟩

/-- A slice of no element that is not nil, wherever it lies. -/
theorem clone_zero (a : Addr) (c : Nat) (w : World) :
    Calls Tryf.prog 5 #[.slice (some a) 0 c] w fun e w' => e = .returned (.slice (some ⟨w.heap.size, 0, none⟩) 0 0) ∧ Below w.heap.size w w' ∧ w'.heap.size = w.heap.size + 1 := by
  have h1 := fun w a n c n' c' => Lib.run_eql_slice_nil (P := Tryf.prog) w 22 5 a n c n' c' Tryf.underlying22
  have hmk := run_make_row' (P := Tryf.prog) 22 5 (.int .u8 0) 1 Tryf.underlying22 Tryf.info5 rfl .i64 .i64 0 (by omega) (by omega)
  simp only [Int.ofNat_zero] at hmk
  go_enter Tryf.func5, Tryf.ntmps5
  go_wp2
  refine wp_loop_rounds 1 ?_
  rw [rounds_succ]
  go_wp2
  go_ret
  exact ⟨rfl, (Below.refl _ _).alloc (Nat.le_refl _) _, by simp⟩

/-! ### zzb1Same -/
theorem same_nil (w : World) :
    Calls Tryf.prog 8 #[.slice none 0 0, .slice none 0 0] w fun e w' => e = .returned (.bool true) ∧ Below w.heap.size w w' := by
  have h1 := fun w a n c n' c' => Lib.run_eql_slice_nil (P := Tryf.prog) w 22 5 a n c n' c' Tryf.underlying22
  go_enter Tryf.func8, Tryf.ntmps8
  go_wp2
  refine wp_loop_rounds 1 ?_
  rw [rounds_succ]
  go_wp2
  go_ret
  exact ⟨rfl, Below.refl _ _⟩

theorem same_some (xs : List Int) (b b2 n c c2 : Nat) (w : World) (hn : n ≤ 1048576) (hb : b < w.heap.size) (hb2 : b2 < w.heap.size)
    (hc : ∀ j, j < n → w.cell? ⟨b, j, none⟩ = some (.int .u8 (xs.getD j 0))) (hc2 : ∀ j, j < n → w.cell? ⟨b2, j, none⟩ = some (.int .u8 (xs.getD j 0))) :
    Calls Tryf.prog 8 #[.slice (some ⟨b, 0, none⟩) n c, .slice (some ⟨b2, 0, none⟩) n c2] w fun e w' => e = .returned (.bool true) ∧ Below w.heap.size w w' := by
  have h1 := fun w a n c n' c' => Lib.run_eql_slice_nil (P := Tryf.prog) w 22 5 a n c n' c' Tryf.underlying22
  go_enter Tryf.func8, Tryf.ntmps8
  go_wp2
  clear h1
  go_loopw [5] (fun i wr => ∃ k : Nat, k ≤ n ∧ i = .int .i64 k ∧ Below w.heap.size w wr) (fun i _ => n - (intOf i).toNat)
  case atStart => exact ⟨0, Nat.zero_le _, rfl, Below.refl _ _⟩
  case round =>
    obtain ⟨k, hk, rfl, hal⟩ := hrel
    by_cases hlt : k < n
    · have g1 : wr.cell? ⟨b, k, none⟩ = some (.int .u8 (xs.getD k 0)) := (hal.cell hb).trans (hc k hlt)
      have g2 : wr.cell? ⟨b2, k, none⟩ = some (.int .u8 (xs.getD k 0)) := (hal.cell hb2).trans (hc2 k hlt)
      have hi : (k : Int) < (n : Int) := by omega
      have HH : Hid (Below w.heap.size w wr) := hal
      clear hal hc hc2
      go_wp2
      go_quiet (fail)
      go_wp2
      go_roundw
      case rel => exact ⟨k + 1, by omega, by go_num, below_drewN HH.out _⟩
      case measure => simp [intOf]; omega
    · obtain rfl : k = n := by omega
      have HH : Hid (Below w.heap.size w wr) := hal
      clear hal hc hc2
      go_wp2
      go_ret
      exact ⟨rfl, HH.out⟩
end Go.Proofs.Qxb6609370aFmt
