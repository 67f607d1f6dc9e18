/-
  THE WALKS over zzBytes.., zzStringsBytes, zzCloneStrings.
-/
import Derived.Test.Qxb6609532aWalksA
import Derived.Deep.OwnRows
namespace Go.Proofs.Qxb6609532a
open Go.RowKit

/-- A slice of strings that came in. -/
def ArgS (w : World) (xs : List ByteArray) (ao : Option Addr) (n c : Nat) : Prop :=
  (ao = none ∧ n = 0 ∧ c = 0) ∨ (∃ a, ao = some a ∧ n = 0) ∨
  (∃ b off, ao = some ⟨b, off, none⟩ ∧ b < w.heap.size ∧ ∀ j, j < n → w.cell? ⟨b, off + j, none⟩ = some (.string (xs.getD j ByteArray.empty)))

theorem ArgS.at {w : World} {xs : List ByteArray} {ao : Option Addr} {n c : Nat} (h : ArgS w xs ao n c) {k : Nat} (hk : k < n) :
    ∃ b off s, ao = some ⟨b, off, none⟩ ∧ w.cell? ⟨b, off + k, none⟩ = some (.string s) := by
  rcases h with ⟨_, h, _⟩ | ⟨_, _, h⟩ | ⟨b, off, h, _, hc⟩
  · omega
  · omega
  · exact ⟨b, off, _, h, hc k hk⟩

theorem strBytes_any (xs : List ByteArray) (ao : Option Addr) (n c : Nat) (w : World) (h : ArgS w xs ao n c) (hn : n ≤ 65536) :
    Calls Try.prog 5 #[.slice ao n c] w fun e w' => ∃ z, e = .returned (.int .i64 z) ∧ 0 ≤ z ∧ z ≤ 4000000 ∧ w' = w := by
  have HA : Hid (ArgS w xs ao n c) := h
  clear h
  go_enter Try.func5, Try.ntmps5
  go_wp2
  go_loop [3, 4] (fun t i => ∃ (k : Nat) (z : Int), k ≤ n ∧ i = .int .i64 k ∧ t = .int .i64 z ∧ 0 ≤ z ∧ z ≤ 1048576) (fun _ i => n - (intOf i).toNat)
  case atStart => exact ⟨0, 0, Nat.zero_le _, rfl, rfl, by omega, by omega⟩
  case round =>
    obtain ⟨k, z, hk, rfl, rfl, hz0, hz1⟩ := hrel
    by_cases hlt : k < n
    · obtain ⟨b, off, s, rfl, hc⟩ := HA.out.at hlt
      clear HA
      have hi : (k : Int) < (n : Int) := by omega
      by_cases hs : 1048576 < (s.size : Int)
      · go_wp2
        go_ret
        exact ⟨_, rfl, by omega, by omega, rfl⟩
      · by_cases hz : 1048576 < z + (16 + (s.size : Int))
        · go_wp2
          go_ret
          exact ⟨_, rfl, by omega, by omega, rfl⟩
        · go_wp2
          go_round
          case rel => exact ⟨k + 1, _, by omega, by go_num, rfl, by omega, by omega⟩
          case measure => simp [intOf]; omega
    · have hi : ¬ (k : Int) < (n : Int) := by omega
      go_wp2
      go_ret
      exact ⟨_, rfl, by omega, by omega, rfl⟩

/-- The call returns a bool. -/
def RetBool (e : Ending) : Prop := ∃ r, e = .returned (.bool r)

theorem bytes_any (prog : ByteArray) (xs ys : List ByteArray) (ao a2 : Option Addr) (n c m d : Nat) (w : World) (h : ArgS w xs ao n c) (h2 : ArgS w ys a2 m d) (hp : prog.size ≤ 9223372036854775807) (hn : n ≤ 9223372036854775807) (hm : m ≤ 9223372036854775807) :
    Calls Try.prog 4 #[.string prog, .slice ao n c, .slice a2 m d] w fun e w' => RetBool e ∧ w' = w := by
  have HA : Hid (ArgS w xs ao n c) := h
  have HB : Hid (ArgS w ys a2 m d) := h2
  clear h h2
  by_cases p1 : 1048576 < (prog.size : Int)
  · go_enter Try.func4, Try.ntmps4
    go_wp2
    go_ret
    exact ⟨⟨_, rfl⟩, rfl⟩
  by_cases p2 : 1048576 < (n : Int)
  · go_enter Try.func4, Try.ntmps4
    go_wp2
    go_ret
    exact ⟨⟨_, rfl⟩, rfl⟩
  by_cases p3 : 1048576 < (prog.size : Int) + (n : Int)
  · go_enter Try.func4, Try.ntmps4
    go_wp2
    go_ret
    exact ⟨⟨_, rfl⟩, rfl⟩
  go_enter Try.func4, Try.ntmps4
  go_wp2
  go_loop [7, 8] (fun t i => ∃ (k : Nat) (z : Int), k ≤ n ∧ i = .int .i64 k ∧ t = .int .i64 z ∧ 0 ≤ z ∧ z ≤ 1048576) (fun _ i => n - (intOf i).toNat)
  case atStart => exact ⟨0, _, Nat.zero_le _, rfl, rfl, by omega, by omega⟩
  case round =>
    obtain ⟨k, z, hk, rfl, rfl, hz0, hz1⟩ := hrel
    by_cases hlt : k < n
    · obtain ⟨b, off, s, rfl, hc⟩ := HA.out.at hlt
      clear HA HB
      have hi : (k : Int) < (n : Int) := by omega
      by_cases hs : 1048576 < (s.size : Int)
      · go_wp2
        go_ret
        exact ⟨⟨_, rfl⟩, rfl⟩
      · by_cases hz : 1048576 < z + (s.size : Int)
        · go_wp2
          go_ret
          exact ⟨⟨_, rfl⟩, rfl⟩
        · go_wp2
          go_round
          case rel => exact ⟨k + 1, _, by omega, by go_num, rfl, by omega, by omega⟩
          case measure => simp [intOf]; omega
    · have hi : ¬ (k : Int) < (n : Int) := by omega
      clear HA
      by_cases q1 : 1048576 < (m : Int)
      · go_wp2
        go_ret
        exact ⟨⟨_, rfl⟩, rfl⟩
      by_cases q2 : 1048576 < z + (m : Int)
      · go_wp2
        go_ret
        exact ⟨⟨_, rfl⟩, rfl⟩
      go_wp2
      go_loop [7, 9] (fun t i => ∃ (k : Nat) (z : Int), k ≤ m ∧ i = .int .i64 k ∧ t = .int .i64 z ∧ 0 ≤ z ∧ z ≤ 1048576) (fun _ i => m - (intOf i).toNat)
      case atStart => exact ⟨0, _, Nat.zero_le _, rfl, rfl, by omega, by omega⟩
      case round =>
        obtain ⟨k2, z2, hk2, rfl, rfl, hz20, hz21⟩ := hrel
        by_cases hlt2 : k2 < m
        · obtain ⟨b, off, s, rfl, hc⟩ := HB.out.at hlt2
          clear HB
          have hi2 : (k2 : Int) < (m : Int) := by omega
          by_cases hs : 1048576 < (s.size : Int)
          · go_wp2
            go_ret
            exact ⟨⟨_, rfl⟩, rfl⟩
          · by_cases hz : 1048576 < z2 + (s.size : Int)
            · go_wp2
              go_ret
              exact ⟨⟨_, rfl⟩, rfl⟩
            · go_wp2
              go_round
              case rel => exact ⟨k2 + 1, _, by omega, by go_num, rfl, by omega, by omega⟩
              case measure => simp [intOf]; omega
        · have hi2 : ¬ (k2 : Int) < (m : Int) := by omega
          go_wp2
          go_ret
          exact ⟨⟨_, rfl⟩, rfl⟩

/-! ### zzCloneStrings -/
theorem Try.info9 : (Try.prog.info? 9).map (fun i => (i.zero, i.size, i.bytes)) = some (some (.string ByteArray.empty), 1, 16) := by kernel_rfl

theorem clone_nil (w : World) :
    Calls Try.prog 6 #[.slice none 0 0] w fun e w' => e = .returned (.slice none 0 0) ∧ w' = w := by
  have h1 := fun w a n c n' c' => Lib.run_eql_slice_nil (P := Try.prog) w 22 9 a n c n' c' Try.underlying22
  go_enter Try.func6, Try.ntmps6
  go_wp2
  go_ret
  exact ⟨rfl, rfl⟩

theorem clone_zero (a : Addr) (c : Nat) (w : World) :
    Calls Try.prog 6 #[.slice (some a) 0 c] w fun e w' => e = .returned (.slice (some ⟨w.heap.size, 0, none⟩) 0 0) ∧ Below w.heap.size w w' ∧ w'.heap.size = w.heap.size + 1 := by
  have h1 := fun w a n c n' c' => Lib.run_eql_slice_nil (P := Try.prog) w 22 9 a n c n' c' Try.underlying22
  have hmk := run_make_row' (P := Try.prog) 22 9 (.string ByteArray.empty) 16 Try.underlying22 Try.info9 rfl .i64 .i64 0 (by omega) (by omega)
  simp only [Int.ofNat_zero] at hmk
  go_enter Try.func6, Try.ntmps6
  go_wp2
  refine wp_loop_rounds 1 ?_
  rw [rounds_succ]
  go_wp2
  go_ret
  exact ⟨rfl, (Below.refl _ _).alloc (Nat.le_refl _) _, by simp⟩

/-- What the row holds behind k rounds. -/
def upTo (xs : List ByteArray) (k j : Nat) : Value := if j < k then .string (xs.getD j ByteArray.empty) else .string ByteArray.empty

theorem clone_some (xs : List ByteArray) (b off n c : Nat) (w : World) (hn : n ≤ 65536) (hb : b < w.heap.size)
    (hc : ∀ j, j < n → w.cell? ⟨b, off + j, none⟩ = some (.string (xs.getD j ByteArray.empty))) :
    Calls Try.prog 6 #[.slice (some ⟨b, off, none⟩) n c] w fun e w' => e = .returned (.slice (some ⟨w.heap.size, 0, none⟩) n n) ∧ Below w.heap.size w w' ∧ w'.heap.size = w.heap.size + 1 ∧
      w'.rowIs w.heap.size 9 n (upTo xs n) := by
  have h1 := fun w a n c n' c' => Lib.run_eql_slice_nil (P := Try.prog) w 22 9 a n c n' c' Try.underlying22
  have hmk := run_make_row' (P := Try.prog) 22 9 (.string ByteArray.empty) 16 Try.underlying22 Try.info9 rfl .i64 .i64 n (by omega) (by omega)
  go_enter Try.func6, Try.ntmps6
  go_wp2
  clear hmk h1
  go_loopw [4] (fun i wr => ∃ k : Nat, k ≤ n ∧ i = .int .i64 k ∧ Below w.heap.size w wr ∧ wr.heap.size = w.heap.size + 1 ∧ wr.rowIs w.heap.size 9 n (upTo xs k)) (fun i _ => n - (intOf i).toNat)
  case atStart => exact ⟨0, Nat.zero_le _, rfl, (Below.refl _ _).alloc (Nat.le_refl _) _, by simp, (World.rowIs_made _ _ _ _).congr (fun i hi => by simp [upTo])⟩
  case round =>
    obtain ⟨k, hk, rfl, hbel, hsz, hrow⟩ := hrel
    by_cases hlt : k < n
    · obtain ⟨s, hs⟩ : ∃ s, s = xs.getD k ByteArray.empty := ⟨_, rfl⟩
      have hcx : wr.cell? ⟨b, off + k, none⟩ = some (.string s) := by rw [hs]; exact (hbel.cell (by exact hb)).trans (hc k hlt)
      have hcd : wr.cell? ⟨w.heap.size, k, none⟩ = some (.string ByteArray.empty) := by rw [hrow.cell hlt]; simp [upTo]
      have hfz := hrow.frozen k
      have R : (wr.setCell ⟨w.heap.size, k, none⟩ (.string s)).rowIs w.heap.size 9 n (upTo xs (k + 1)) := (hrow.set k _).congr (fun j hj => by
        unfold upTo
        by_cases e : j = k
        · subst e; simp [hs]
        · have : (j < k + 1) = (j < k) := by apply propext; omega
          simp [e, this])
      have HH : Hid (Below w.heap.size w (wr.setCell ⟨w.heap.size, k, none⟩ (.string s)) ∧ (wr.setCell ⟨w.heap.size, k, none⟩ (.string s)).heap.size = w.heap.size + 1 ∧ (wr.setCell ⟨w.heap.size, k, none⟩ (.string s)).rowIs w.heap.size 9 n (upTo xs (k + 1))) :=
        ⟨hbel.setCell (p := ⟨w.heap.size, k, none⟩) (Nat.le_refl _) _, by simp [World.setCell, hsz], R⟩
      clear R hbel hrow hsz hc hs
      go_wp2
      go_roundw
      case rel => exact ⟨k + 1, by omega, by go_num, HH.out.1, HH.out.2.1, HH.out.2.2⟩
      case measure => simp [intOf]; omega
    · obtain rfl : k = n := by omega
      have HH : Hid (Below w.heap.size w wr ∧ wr.heap.size = w.heap.size + 1 ∧ wr.rowIs w.heap.size 9 k (upTo xs k)) := ⟨hbel, hsz, hrow⟩
      clear hbel hsz hrow hc
      go_wp2
      go_ret
      exact ⟨rfl, HH.out.1, HH.out.2.1, HH.out.2.2⟩

theorem clone_any {w : World} {xs : List ByteArray} {ao : Option Addr} {n c : Nat} (h : ArgS w xs ao n c) (hn : n ≤ 65536) :
    Calls Try.prog 6 #[.slice ao n c] w fun e w' => ∃ a1 c1, e = .returned (.slice a1 n c1) ∧ HeldS w' xs a1 n ∧ Below w.heap.size w w' := by
  rcases h with ⟨rfl, rfl, rfl⟩ | ⟨a, rfl, rfl⟩ | ⟨b, off, rfl, hb, hc⟩
  · refine (clone_nil w).mono ?_
    rintro e w' ⟨rfl, rfl⟩
    exact ⟨_, _, rfl, .inl rfl, Below.refl _ _⟩
  · refine (clone_zero a c w).mono ?_
    rintro e w' ⟨rfl, hb, _⟩
    exact ⟨_, _, rfl, .inl rfl, hb⟩
  · refine (clone_some xs b off n c w hn hb hc).mono ?_
    rintro e w' ⟨rfl, hb, hs, hr⟩
    refine ⟨_, _, rfl, .inr ⟨_, rfl, by omega, fun j hj => ?_⟩, hb⟩
    rw [hr.cell hj]
    simp [upTo, hj]

theorem ArgS.below {w w' : World} {xs : List ByteArray} {ao : Option Addr} {n c : Nat} (h : ArgS w xs ao n c) (hb : Below w.heap.size w w') : ArgS w' xs ao n c := by
  rcases h with h | h | ⟨b, off, h1, h2, h3⟩
  · exact .inl h
  · exact .inr (.inl h)
  · exact .inr (.inr ⟨b, off, h1, Nat.lt_of_lt_of_le h2 hb.size, fun j hj => (hb.cell (p := ⟨b, _, none⟩) h2).trans (h3 j hj)⟩)
theorem HeldS.below {w w' : World} {xs : List ByteArray} {ao : Option Addr} {n : Nat} (h : HeldS w xs ao n) (hb : Below w.heap.size w w') : HeldS w' xs ao n := by
  rcases h with h | ⟨B, h1, h2, h3⟩
  · exact .inl h
  · exact .inr ⟨B, h1, Nat.lt_of_lt_of_le h2 hb.size, fun j hj => (hb.cell (p := ⟨B, _, none⟩) h2).trans (h3 j hj)⟩
end Go.Proofs.Qxb6609532a
