/-
  THE WALK over the law: FnUnansweredNoAnswerIsError returns true.
-/
import Derived.Test.Qxb6609370aFmtWalksA
import Derived.Test.Qxb6609370aFmtWalksB
import Derived.Test.Qxb6609370aFmtWalksC
namespace Go.Proofs.Qxb6609370aFmt
open Go.RowKit Go.Extern.Stop Go.Stop Go.Extern

/-- A slice that the call owns: nil (z), or a row of its own that begins with xs's first n numbers. -/
def Held (w : World) (z : Bool) (xs : List Int) (ao : Option Addr) (n c : Nat) : Prop :=
  (z = true ∧ ao = none ∧ n = 0 ∧ c = 0) ∨
  (z = false ∧ ∃ B, ao = some ⟨B, 0, none⟩ ∧ B < w.heap.size ∧ ∀ j, j < n → w.cell? ⟨B, j, none⟩ = some (.int .u8 (xs.getD j 0)))

/-- The argument: nil (z), of no element, or a row that came in. -/
def Arg (w : World) (z : Bool) (xs : List Int) (ao : Option Addr) (n c : Nat) : Prop :=
  (z = true ∧ ao = none ∧ n = 0 ∧ c = 0) ∨ (z = false ∧ ∃ a, ao = some a ∧ n = 0) ∨
  (z = false ∧ ∃ b off, ao = some ⟨b, off, none⟩ ∧ b < w.heap.size ∧ ∀ j, j < n → w.cell? ⟨b, off + j, none⟩ = some (.int .u8 (xs.getD j 0)))

theorem Held.arg {w : World} {z : Bool} {xs : List Int} {ao : Option Addr} {n c : Nat} (h : Held w z xs ao n c) : Arg w z xs ao n c := by
  rcases h with h | ⟨hz, B, h1, h2, h3⟩
  · exact .inl h
  · exact .inr (.inr ⟨hz, B, 0, h1, h2, fun j hj => by rw [Nat.zero_add]; exact h3 j hj⟩)

theorem Held.below {w w' : World} {z : Bool} {xs : List Int} {ao : Option Addr} {n c : Nat} (h : Held w z xs ao n c) (hb : Below w.heap.size w w') : Held w' z xs ao n c := by
  rcases h with h | ⟨hz, B, h1, h2, h3⟩
  · exact .inl h
  · exact .inr ⟨hz, B, h1, Nat.lt_of_lt_of_le h2 hb.size, fun j hj => (hb.cell (p := ⟨B, j, none⟩) h2).trans (h3 j hj)⟩

theorem clone_any {w : World} {z : Bool} {xs : List Int} {ao : Option Addr} {n c : Nat} (h : Arg w z xs ao n c) (hn : n ≤ 1048576) :
    Calls Tryf.prog 5 #[.slice ao n c] w fun e w' => ∃ a1 c1, e = .returned (.slice a1 n c1) ∧ Held w' z xs a1 n c1 ∧ Below w.heap.size w w' := by
  rcases h with ⟨hz, rfl, rfl, rfl⟩ | ⟨hz, a, rfl, rfl⟩ | ⟨hz, b, off, rfl, hb, hc⟩
  · refine (clone_nil w).mono ?_
    rintro e w' ⟨rfl, rfl⟩
    exact ⟨_, _, rfl, .inl ⟨hz, rfl, rfl, rfl⟩, Below.refl _ _⟩
  · refine (clone_zero a c w).mono ?_
    rintro e w' ⟨rfl, hb, hs⟩
    exact ⟨_, _, rfl, .inr ⟨hz, _, rfl, by omega, fun j hj => absurd hj (Nat.not_lt_zero j)⟩, hb⟩
  · refine (clone_some xs b off n c w hn hb hc).mono ?_
    rintro e w' ⟨rfl, hb, hs, hr⟩
    refine ⟨_, _, rfl, .inr ⟨hz, _, rfl, by omega, fun j hj => ?_⟩, hb⟩
    rw [hr.cell hj]
    simp [upTo, hj]

theorem same_any {w : World} {z : Bool} {xs : List Int} {ao a2 : Option Addr} {n c c2 : Nat} (h : Held w z xs ao n c) (h2 : Held w z xs a2 n c2) (hn : n ≤ 1048576) :
    Calls Tryf.prog 8 #[.slice ao n c, .slice a2 n c2] w fun e w' => e = .returned (.bool true) ∧ Below w.heap.size w w' := by
  rcases h with ⟨hz, rfl, rfl, rfl⟩ | ⟨hz, B, rfl, hB, hc⟩
  · rcases h2 with ⟨_, rfl, _, rfl⟩ | ⟨hz2, _⟩
    · exact same_nil w
    · rw [hz] at hz2; cases hz2
  · rcases h2 with ⟨hz2, _⟩ | ⟨_, B2, rfl, hB2, hc2⟩
    · rw [hz] at hz2; cases hz2
    · exact same_some xs B B2 n c c2 w hn hB hB2 hc hc2

theorem heap2 {w : World} {r : Nat} {m : Obj} (hm : w.heap[r]? = some m) (o1 o2 : Obj) : ((w.alloc o1).alloc o2).heap[r]? = some m := by
  have hlt : r < w.heap.size := (Array.getElem?_eq_some_iff.1 hm).1
  show ((w.heap.push o1).push o2)[r]? = _
  rw [Array.getElem?_push, if_neg (by simp; omega), Array.getElem?_push, if_neg (by omega)]
  exact hm

theorem law_no (why url : ByteArray) (ao : Option Addr) (n c : Nat) (w : World) (h : 1048576 < why.size + n + url.size) :
    Calls Tryf.prog 3 #[.string why, .slice ao n c, .string url] w fun e w' => e = .returned (.bool true) ∧ w' = w := by
  go_enter Tryf.func3, Tryf.ntmps3
  go_wp2_with fail
  refine (bytes_no why url ao n c w h).mono ?_
  rintro e w' ⟨rfl, rfl⟩
  go_wp2
  go_ret
  exact ⟨rfl, rfl⟩

theorem law_why (F : Interp) (why url : ByteArray) (z : Bool) (xs : List Int) (ao : Option Addr) (n c : Nat) (w : World) (hF : F.answers w.tape) (h : why.size + n + url.size ≤ 1048576)
    (hy : why.toList.isEmpty = false) (ha : Arg w z xs ao n c) :
    Calls Tryf.prog 3 #[.string why, .slice ao n c, .string url] w fun e w' => e = .returned (.bool true) ∧ Below w.heap.size w w' := by
  have HF : Hid (F.answers w.tape) := hF
  have HA : Hid (Arg w z xs ao n c) := ha
  have hn : n ≤ 1048576 := by omega
  clear hF ha
  go_enter Tryf.func3, Tryf.ntmps3
  go_wp2_with fail
  refine (bytes_yes why url ao n c w h).mono ?_
  rintro e w' ⟨rfl, rfl⟩
  go_wp2_with fail
  refine (clone_any HA.out hn).mono ?_
  rintro e w1 ⟨a1, c1, rfl, hk1, hb1⟩
  have K1 : Hid (Held w1 z xs a1 n c1) := hk1
  have B1 : Hid (Below w'.heap.size w' w1) := hb1
  clear hk1 hb1
  go_wp2_with fail
  refine (clone_any K1.out.arg hn).mono ?_
  rintro e w2 ⟨a2, c2, rfl, hk2, hb2⟩
  have K2 : Hid (Held w2 z xs a2 n c2) := hk2
  have B2 : Hid (Below w1.heap.size w1 w2) := hb2
  clear hk2 hb2
  go_wp2_with fail
  refine (noAnswer_why why hy a1 n c1 w2).mono ?_
  rintro e w3 ⟨rfl, hb3, hs3, hm3⟩
  have B3 : Hid (Below w2.heap.size w2 w3) := hb3
  have M3 : Hid (w3.heap[w2.heap.size + 1]? = some (.map #[{ key := .string ⟨#[101, 114, 114, 111, 114]⟩, val := .iface 9 (.string why), born := 0 }] 1)) := hm3
  clear hb3 hm3
  go_wp2_with fail
  have T3 : F.answers w3.tape := by rw [B3.out.tape, B2.out.tape, B1.out.tape]; exact HF.out
  refine (unanswered_why F ⟨#[110, 111, 110, 101]⟩ url why hy (w2.heap.size + 1) (.slice a1 n c1) _ ?_ ?_ ?_).mono ?_
  · exact T3
  · intro o; exact (look_one _ why _ (heap2 M3.out _ o)).1
  · intro o; exact (look_one _ why _ (heap2 M3.out _ o)).2
  rintro e w5 ⟨ax, rfl, hb5⟩
  clear T3
  have hs5 : w3.heap.size < w5.heap.size := by have := hb5.size; simp at this; omega
  have q0 : w5.cell? ⟨w3.heap.size, 0, none⟩ = some (.string ⟨#[110, 111, 110, 101]⟩) := (hb5.cell (p := ⟨w3.heap.size, 0, none⟩) (by simp)).trans (by simp)
  have q2 : w5.cell? ⟨w3.heap.size, 2, none⟩ = some (.map (some (w2.heap.size + 1))) := (hb5.cell (p := ⟨w3.heap.size, 2, none⟩) (by simp)).trans (by simp)
  have q3 : w5.cell? ⟨w3.heap.size, 3, none⟩ = some (.slice a1 n c1) := (hb5.cell (p := ⟨w3.heap.size, 3, none⟩) (by simp)).trans (by simp)
  have hm5 : w5.heap[w2.heap.size + 1]? = some (.map #[{ key := .string ⟨#[101, 114, 114, 111, 114]⟩, val := .iface 9 (.string why), born := 0 }] 1) :=
    (hb5.block _ (by simp; omega)).trans ((Below.heap_alloc w3 _ _ (by omega)).trans M3.out)
  have hlen := len_map _ _ _ w5 hm5
  have B5 : Hid (Below w3.heap.size w3 w5) := ((Below.refl _ _).alloc (Nat.le_refl _) _).trans (hb5.mono (by simp))
  clear hb5 hm5
  go_wp2_with fail
  have K1' : Held w5 z xs a1 n c1 := (((K1.out.below B2.out).below B3.out).below B5.out)
  have K2' : Held w5 z xs a2 n c2 := ((K2.out.below B3.out).below B5.out)
  refine (same_any K1' K2' hn).mono ?_
  rintro e w6 ⟨rfl, hal⟩
  clear K1' K2' q0 q2 q3 hlen
  go_wp2
  go_ret
  refine ⟨rfl, ?_⟩
  have b15 : Below w'.heap.size w' w5 := ((B1.out.trans (B2.out.mono B1.out.size)).trans (B3.out.mono (Nat.le_trans B1.out.size B2.out.size))).trans (B5.out.mono (Nat.le_trans (Nat.le_trans B1.out.size B2.out.size) B3.out.size))
  exact b15.trans (hal.mono b15.size)

theorem law_empty (F : Interp) (why url : ByteArray) (z : Bool) (xs : List Int) (ao : Option Addr) (n c : Nat) (w : World) (hF : F.answers w.tape) (h : why.size + n + url.size ≤ 1048576)
    (hy : why.toList.isEmpty = true) (ha : Arg w z xs ao n c) :
    Calls Tryf.prog 3 #[.string why, .slice ao n c, .string url] w fun e w' => e = .returned (.bool true) ∧ Below w.heap.size w w' := by
  have HF : Hid (F.answers w.tape) := hF
  have HA : Hid (Arg w z xs ao n c) := ha
  have hn : n ≤ 1048576 := by omega
  clear hF ha
  go_enter Tryf.func3, Tryf.ntmps3
  go_wp2_with fail
  refine (bytes_yes why url ao n c w h).mono ?_
  rintro e w' ⟨rfl, rfl⟩
  go_wp2_with fail
  refine (clone_any HA.out hn).mono ?_
  rintro e w1 ⟨a1, c1, rfl, hk1, hb1⟩
  have K1 : Hid (Held w1 z xs a1 n c1) := hk1
  have B1 : Hid (Below w'.heap.size w' w1) := hb1
  clear hk1 hb1
  go_wp2_with fail
  refine (clone_any K1.out.arg hn).mono ?_
  rintro e w2 ⟨a2, c2, rfl, hk2, hb2⟩
  have K2 : Hid (Held w2 z xs a2 n c2) := hk2
  have B2 : Hid (Below w1.heap.size w1 w2) := hb2
  clear hk2 hb2
  go_wp2_with fail
  refine (noAnswer_empty why hy a1 n c1 w2).mono ?_
  rintro e w3 ⟨rfl, hb3, hs3, hm3⟩
  have B3 : Hid (Below w2.heap.size w2 w3) := hb3
  have M3 : Hid (w3.heap[w2.heap.size + 1]? = some (.map #[] 0)) := hm3
  clear hb3 hm3
  go_wp2_with fail
  have T3 : F.answers w3.tape := by rw [B3.out.tape, B2.out.tape, B1.out.tape]; exact HF.out
  refine (unanswered_empty F ⟨#[110, 111, 110, 101]⟩ url (w2.heap.size + 1) (.slice a1 n c1) _ ?_ ?_ ?_).mono ?_
  · exact T3
  · intro o; exact (look_none _ _ _ (heap2 M3.out _ o)).1
  · intro o; exact (look_none _ _ _ (heap2 M3.out _ o)).2
  rintro e w5 ⟨ax, rfl, hb5⟩
  clear T3
  have hs5 : w3.heap.size < w5.heap.size := by have := hb5.size; simp at this; omega
  have q0 : w5.cell? ⟨w3.heap.size, 0, none⟩ = some (.string ⟨#[110, 111, 110, 101]⟩) := (hb5.cell (p := ⟨w3.heap.size, 0, none⟩) (by simp)).trans (by simp)
  have q2 : w5.cell? ⟨w3.heap.size, 2, none⟩ = some (.map (some (w2.heap.size + 1))) := (hb5.cell (p := ⟨w3.heap.size, 2, none⟩) (by simp)).trans (by simp)
  have q3 : w5.cell? ⟨w3.heap.size, 3, none⟩ = some (.slice a1 n c1) := (hb5.cell (p := ⟨w3.heap.size, 3, none⟩) (by simp)).trans (by simp)
  have hm5 : w5.heap[w2.heap.size + 1]? = some (.map #[] 0) :=
    (hb5.block _ (by simp; omega)).trans ((Below.heap_alloc w3 _ _ (by omega)).trans M3.out)
  have hlen := len_map _ _ _ w5 hm5
  have B5 : Hid (Below w3.heap.size w3 w5) := ((Below.refl _ _).alloc (Nat.le_refl _) _).trans (hb5.mono (by simp))
  clear hb5 hm5
  go_wp2_with fail
  have K1' : Held w5 z xs a1 n c1 := (((K1.out.below B2.out).below B3.out).below B5.out)
  have K2' : Held w5 z xs a2 n c2 := ((K2.out.below B3.out).below B5.out)
  refine (same_any K1' K2' hn).mono ?_
  rintro e w6 ⟨rfl, hal⟩
  clear K1' K2' q0 q2 q3 hlen
  go_wp2
  go_ret
  refine ⟨rfl, ?_⟩
  have b15 : Below w'.heap.size w' w5 := ((B1.out.trans (B2.out.mono B1.out.size)).trans (B3.out.mono (Nat.le_trans B1.out.size B2.out.size))).trans (B5.out.mono (Nat.le_trans (Nat.le_trans B1.out.size B2.out.size) B3.out.size))
  exact b15.trans (hal.mono b15.size)

/-- THE LAW's WALK, whatever the input. -/
theorem law_any (F : Interp) (why url : ByteArray) (z : Bool) (xs : List Int) (ao : Option Addr) (n c : Nat) (w : World) (hF : F.answers w.tape) (ha : Arg w z xs ao n c) :
    Calls Tryf.prog 3 #[.string why, .slice ao n c, .string url] w fun e w' => e = .returned (.bool true) ∧ Below w.heap.size w w' := by
  by_cases h : why.size + n + url.size ≤ 1048576
  · cases hy : why.toList.isEmpty with
    | false => exact law_why F why url z xs ao n c w hF h hy ha
    | true => exact law_empty F why url z xs ao n c w hF h hy ha
  · refine (law_no why url ao n c w (by omega)).mono ?_
    rintro e w' ⟨rfl, rfl⟩
    exact ⟨rfl, Below.refl _ _⟩
end Go.Proofs.Qxb6609370aFmt
