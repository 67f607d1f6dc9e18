/-
  PLAIN FACTS ON MEMORY: a flag in a row of flags, the command's block, and what keeps them.
-/
import Derived.WalkKit
import Derived.Deep.OwnRows
import Derived.Deep.AppendLies
namespace Go.Proofs.Qxb6609532a
open Go.RowKit

/-- Flag number i of the row of flags in block b: its name, help, short; no value, no env, its key the name, no placeholder. -/
def FlagAt (w : World) (b i : Nat) (nm hp key : ByteArray) (sh : Int) : Prop :=
  ∃ c : Array Value, w.heap[b]? = some (.cells c 57 (0, 0)) ∧ c[i * 17]? = some (.string nm) ∧ c[i * 17 + 1]? = some (.string hp) ∧ c[i * 17 + 2]? = some .nilIface ∧ c[i * 17 + 3]? = some (.string ByteArray.empty) ∧
    c[i * 17 + 4]? = some (.string key) ∧ c[i * 17 + 5]? = some (.string ByteArray.empty) ∧ c[i * 17 + 11]? = some (.int .i32 sh)

namespace FlagAt
variable {w w' : World} {b i : Nat} {nm hp key : ByteArray} {sh : Int}

theorem lt (h : FlagAt w b i nm hp key sh) : b < w.heap.size := by
  obtain ⟨c, hb, _⟩ := h
  exact (Array.getElem?_eq_some_iff.1 hb).1
theorem of_block (h : FlagAt w b i nm hp key sh) (e : w'.heap[b]? = w.heap[b]?) : FlagAt w' b i nm hp key sh := by
  obtain ⟨c, hb, r⟩ := h
  exact ⟨c, e.trans hb, r⟩
theorem frozen (h : FlagAt w b i nm hp key sh) (o : Nat) : w.frozen? ⟨b, o, none⟩ = false := by
  obtain ⟨c, hb, _⟩ := h
  simp [World.frozen?, hb]
theorem cells (h : FlagAt w b i nm hp key sh) : w.cell? ⟨b, i * 17, none⟩ = some (.string nm) ∧ w.cell? ⟨b, i * 17 + 1, none⟩ = some (.string hp) ∧ w.cell? ⟨b, i * 17 + 2, none⟩ = some .nilIface ∧
    w.cell? ⟨b, i * 17 + 3, none⟩ = some (.string ByteArray.empty) ∧ w.cell? ⟨b, i * 17 + 4, none⟩ = some (.string key) ∧ w.cell? ⟨b, i * 17 + 5, none⟩ = some (.string ByteArray.empty) ∧ w.cell? ⟨b, i * 17 + 11, none⟩ = some (.int .i32 sh) := by
  obtain ⟨c, hb, h0, h1, h2, h3, h4, h5, h11⟩ := h
  simp [World.cell?, hb, h0, h1, h2, h3, h4, h5, h11]

theorem heap_setCell {c : Array Value} {t : TypeId} (hb : w.heap[b]? = some (.cells c t (0, 0))) (o : Nat) (v : Value) : (w.setCell ⟨b, o, none⟩ v).heap[b]? = some (.cells (c.setIfInBounds o v) t (0, 0)) := by
  simp [World.setCell, Array.getElem?_modify, hb]

/-- A store into another block. -/
theorem setCell_far (h : FlagAt w b i nm hp key sh) {a : Addr} (ha : b ≠ a.block) (v : Value) : FlagAt (w.setCell a v) b i nm hp key sh :=
  h.of_block (Below.heap_setCell _ _ _ _ ha)
/-- A store into another flag of the same row. -/
theorem setCell_row (h : FlagAt w b i nm hp key sh) {o : Nat} (ho : o < i * 17 ∨ i * 17 + 17 ≤ o) (v : Value) : FlagAt (w.setCell ⟨b, o, none⟩ v) b i nm hp key sh := by
  obtain ⟨c, hb, h0, h1, h2, h3, h4, h5, h11⟩ := h
  refine ⟨_, heap_setCell hb o v, ?_, ?_, ?_, ?_, ?_, ?_, ?_⟩ <;> rw [Array.getElem?_setIfInBounds, if_neg (by omega)] <;> assumption
/-- A store into another flag, wherever it lies. -/
theorem setCell_other (h : FlagAt w b i nm hp key sh) {b' i' k : Nat} (hk : k < 17) (hne : (b, i) ≠ (b', i')) (v : Value) : FlagAt (w.setCell ⟨b', i' * 17 + k, none⟩ v) b i nm hp key sh := by
  by_cases e : b = b'
  · subst e
    have hi : i ≠ i' := fun e => hne (by rw [e])
    exact h.setCell_row (by rcases Nat.lt_or_gt_of_ne hi with h | h <;> omega) v
  · exact h.setCell_far e v

theorem setName (h : FlagAt w b i nm hp key sh) (x : ByteArray) : FlagAt (w.setCell ⟨b, i * 17, none⟩ (.string x)) b i x hp key sh := by
  obtain ⟨c, hb, h0, h1, h2, h3, h4, h5, h11⟩ := h
  have hl := (Array.getElem?_eq_some_iff.1 h0).1
  refine ⟨_, heap_setCell hb _ _, ?_, ?_, ?_, ?_, ?_, ?_, ?_⟩
  · rw [Array.getElem?_setIfInBounds, if_pos rfl, if_pos hl]
  all_goals (rw [Array.getElem?_setIfInBounds, if_neg (by omega)]; assumption)
theorem setHelp (h : FlagAt w b i nm hp key sh) (x : ByteArray) : FlagAt (w.setCell ⟨b, i * 17 + 1, none⟩ (.string x)) b i nm x key sh := by
  obtain ⟨c, hb, h0, h1, h2, h3, h4, h5, h11⟩ := h
  have hl := (Array.getElem?_eq_some_iff.1 h1).1
  refine ⟨_, heap_setCell hb _ _, ?_, ?_, ?_, ?_, ?_, ?_, ?_⟩
  · rw [Array.getElem?_setIfInBounds, if_neg (by omega)]; assumption
  · rw [Array.getElem?_setIfInBounds, if_pos rfl, if_pos hl]
  all_goals (rw [Array.getElem?_setIfInBounds, if_neg (by omega)]; assumption)
theorem setValue (h : FlagAt w b i nm hp key sh) : FlagAt (w.setCell ⟨b, i * 17 + 2, none⟩ .nilIface) b i nm hp key sh := by
  obtain ⟨c, hb, h0, h1, h2, h3, h4, h5, h11⟩ := h
  have hl := (Array.getElem?_eq_some_iff.1 h2).1
  refine ⟨_, heap_setCell hb _ _, ?_, ?_, ?_, ?_, ?_, ?_, ?_⟩
  · rw [Array.getElem?_setIfInBounds, if_neg (by omega)]; assumption
  · rw [Array.getElem?_setIfInBounds, if_neg (by omega)]; assumption
  · rw [Array.getElem?_setIfInBounds, if_pos rfl, if_pos hl]
  all_goals (rw [Array.getElem?_setIfInBounds, if_neg (by omega)]; assumption)
theorem setKey (h : FlagAt w b i nm hp key sh) (x : ByteArray) : FlagAt (w.setCell ⟨b, i * 17 + 4, none⟩ (.string x)) b i nm hp x sh := by
  obtain ⟨c, hb, h0, h1, h2, h3, h4, h5, h11⟩ := h
  have hl := (Array.getElem?_eq_some_iff.1 h4).1
  refine ⟨_, heap_setCell hb _ _, ?_, ?_, ?_, ?_, ?_, ?_, ?_⟩
  · rw [Array.getElem?_setIfInBounds, if_neg (by omega)]; assumption
  · rw [Array.getElem?_setIfInBounds, if_neg (by omega)]; assumption
  · rw [Array.getElem?_setIfInBounds, if_neg (by omega)]; assumption
  · rw [Array.getElem?_setIfInBounds, if_neg (by omega)]; assumption
  · rw [Array.getElem?_setIfInBounds, if_pos rfl, if_pos hl]
  all_goals (rw [Array.getElem?_setIfInBounds, if_neg (by omega)]; assumption)
theorem setShort (h : FlagAt w b i nm hp key sh) (x : Int) : FlagAt (w.setCell ⟨b, i * 17 + 11, none⟩ (.int .i32 x)) b i nm hp key x := by
  obtain ⟨c, hb, h0, h1, h2, h3, h4, h5, h11⟩ := h
  have hl := (Array.getElem?_eq_some_iff.1 h11).1
  refine ⟨_, heap_setCell hb _ _, ?_, ?_, ?_, ?_, ?_, ?_, ?_⟩
  · rw [Array.getElem?_setIfInBounds, if_neg (by omega)]; assumption
  · rw [Array.getElem?_setIfInBounds, if_neg (by omega)]; assumption
  · rw [Array.getElem?_setIfInBounds, if_neg (by omega)]; assumption
  · rw [Array.getElem?_setIfInBounds, if_neg (by omega)]; assumption
  · rw [Array.getElem?_setIfInBounds, if_neg (by omega)]; assumption
  · rw [Array.getElem?_setIfInBounds, if_neg (by omega)]; assumption
  · rw [Array.getElem?_setIfInBounds, if_pos rfl, if_pos hl]
end FlagAt

/-- The command's block: its flags and its spare flags. -/
def Cmd (w : World) (C : Nat) (prog : ByteArray) (vF vS : Value) : Prop :=
  w.heap[C]? = some (.cells #[.string prog, .string ByteArray.empty, .pointer none, .slice none 0 0, vF, .slice none 0 0, .nilFunc, .bool false, vS] 43 (0, 0))

namespace Cmd
variable {w w' : World} {C : Nat} {prog : ByteArray} {vF vS : Value}
theorem lt (h : Cmd w C prog vF vS) : C < w.heap.size := (Array.getElem?_eq_some_iff.1 h).1
theorem of_block (h : Cmd w C prog vF vS) (e : w'.heap[C]? = w.heap[C]?) : Cmd w' C prog vF vS := e.trans h
theorem frozen (h : Cmd w C prog vF vS) (o : Nat) : w.frozen? ⟨C, o, none⟩ = false := by
  unfold Cmd at h
  simp [World.frozen?, h]
theorem cells (h : Cmd w C prog vF vS) : w.cell? ⟨C, 2, none⟩ = some (.pointer none) ∧ w.cell? ⟨C, 4, none⟩ = some vF ∧ w.cell? ⟨C, 8, none⟩ = some vS := by
  unfold Cmd at h
  simp [World.cell?, h]
theorem setFlags (h : Cmd w C prog vF vS) (v : Value) : Cmd (w.setCell ⟨C, 4, none⟩ v) C prog v vS := by
  unfold Cmd at h ⊢
  rw [FlagAt.heap_setCell h]
  rfl
theorem setSpare (h : Cmd w C prog vF vS) (v : Value) : Cmd (w.setCell ⟨C, 8, none⟩ v) C prog vF v := by
  unfold Cmd at h ⊢
  rw [FlagAt.heap_setCell h]
  rfl
/-- The command's block is no row of flags. -/
theorem ne_flag (h : Cmd w C prog vF vS) {b i : Nat} {nm hp key : ByteArray} {sh : Int} (f : FlagAt w b i nm hp key sh) : b ≠ C := by
  rintro rfl
  obtain ⟨c, hb, _⟩ := f
  unfold Cmd at h
  rw [h] at hb
  simp at hb
end Cmd

/-- The zero flag's cells. -/
def zeroFlag : Array Value := #[.string ByteArray.empty, .string ByteArray.empty, .nilIface, .string ByteArray.empty, .string ByteArray.empty, .string ByteArray.empty, .nilFunc, .int .i64 0, .nilIface, .int .i64 0, .pointer none, .int .i32 0, .int .u8 0, .bool false, .bool false, .bool false, .bool false]

theorem made_flag (m i k : Nat) (hi : i < m) (hk : k < 17) : (madeCells zeroFlag (m * 17))[i * 17 + k]? = zeroFlag[k]? := by
  have h1 : i * 17 + k < m * 17 := by omega
  have h2 : zeroFlag.size = 17 := rfl
  have h3 : (i * 17 + k) % 17 = k := by omega
  have h4 : k < zeroFlag.size := hk
  simp only [madeCells]
  rw [Array.getElem?_map, Array.getElem?_eq_getElem (by simpa using h1), Array.getElem_range, Option.map_some, h2, h3, Array.getElem?_eq_getElem h4, getElem!_pos zeroFlag k h4]

/-- A row of flags that has just been made: each is the zero flag. -/
theorem flag_made (w : World) (m i : Nat) (hi : i < m) : FlagAt (w.alloc (.cells (madeCells zeroFlag (m * 17)) 57)) w.heap.size i ByteArray.empty ByteArray.empty ByteArray.empty 0 := by
  refine ⟨_, heap_alloc_new w _, ?_, ?_, ?_, ?_, ?_, ?_, ?_⟩
  · exact made_flag m i 0 hi (by omega)
  · exact made_flag m i 1 hi (by omega)
  · exact made_flag m i 2 hi (by omega)
  · exact made_flag m i 3 hi (by omega)
  · exact made_flag m i 4 hi (by omega)
  · exact made_flag m i 5 hi (by omega)
  · exact made_flag m i 11 hi (by omega)

end Go.Proofs.Qxb6609532a
