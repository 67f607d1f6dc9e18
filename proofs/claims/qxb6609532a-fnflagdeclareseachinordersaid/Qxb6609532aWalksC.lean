/-
  THE INVARIANT: a program that has declared its flags one after another; newFlag, Flag and ZZflagNone keep it.
-/
import Derived.Test.Qxb6609532aWalksB
namespace Go.Proofs.Qxb6609532a
open Go.RowKit

/-- Below base all blocks but C are as they were. -/
structure Kept (C base : Nat) (w w' : World) : Prop where
  os : w'.os = w.os
  tape : w'.tape = w.tape
  output : w'.output = w.output
  size : w.heap.size ≤ w'.heap.size
  block : ∀ q, q < base → q ≠ C → w'.heap[q]? = w.heap[q]?

namespace Kept
variable {C base : Nat} {w w' w'' : World}
theorem refl (C base : Nat) (w : World) : Kept C base w w := ⟨rfl, rfl, rfl, Nat.le_refl _, fun _ _ _ => rfl⟩
theorem trans (h : Kept C base w w') (k : Kept C base w' w'') : Kept C base w w'' :=
  ⟨k.os.trans h.os, k.tape.trans h.tape, k.output.trans h.output, Nat.le_trans h.size k.size, fun q h1 h2 => (k.block q h1 h2).trans (h.block q h1 h2)⟩
theorem alloc (h : Kept C base w w') (hb : base ≤ w'.heap.size) (o : Obj) : Kept C base w (w'.alloc o) :=
  h.trans ⟨rfl, rfl, rfl, by simp, fun q h1 _ => Below.heap_alloc _ _ _ (by omega)⟩
theorem setCell (h : Kept C base w w') {a : Addr} (ha : a.block = C ∨ base ≤ a.block) (v : Value) : Kept C base w (w'.setCell a v) :=
  h.trans ⟨rfl, rfl, rfl, by simp [World.setCell], fun q h1 h2 => Below.heap_setCell _ _ _ _ (by omega)⟩
theorem grown (h : Kept C base w w') {row : Option Nat} (hg : w'.grownBy w'' row) (hb : base ≤ w'.heap.size) (hr : ∀ k, row = some k → base ≤ k) : Kept C base w w'' :=
  h.trans ⟨hg.os, hg.tape, hg.output, hg.size, fun q h1 _ => hg.block q (by omega) (fun e => by have := hr q e.symm; omega)⟩
end Kept

theorem FlagAt.alloc {w : World} {b i : Nat} {nm hp key : ByteArray} {sh : Int} (h : FlagAt w b i nm hp key sh) (o : Obj) : FlagAt (w.alloc o) b i nm hp key sh :=
  h.of_block (Below.heap_alloc _ _ _ h.lt)
theorem Cmd.alloc {w : World} {C : Nat} {prog : ByteArray} {vF vS : Value} (h : Cmd w C prog vF vS) (o : Obj) : Cmd (w.alloc o) C prog vF vS :=
  h.of_block (Below.heap_alloc _ _ _ h.lt)
theorem Cmd.setCell_far {w : World} {C : Nat} {prog : ByteArray} {vF vS : Value} (h : Cmd w C prog vF vS) {a : Addr} (ha : C ≠ a.block) (v : Value) : Cmd (w.setCell a v) C prog vF vS :=
  h.of_block (Below.heap_setCell _ _ _ _ ha)

/-- The pointer to a flag. -/
def adr (p : Nat × Nat) : Value := .pointer (some ⟨p.1, p.2 * 17, none⟩)

/-- The spare flags: none left, or a row of zero flags of which none has been handed out. -/
def Spare (base : Nat) (pts : List (Nat × Nat)) (w : World) (vS : Value) : Prop :=
  (∃ ao cap, vS = .slice ao 0 cap ∧ cap ≤ 128) ∨
  (∃ Sb s cap, vS = .slice (some ⟨Sb, 0, none⟩) (s + 1) cap ∧ s + 1 ≤ cap ∧ cap ≤ 128 ∧ base ≤ Sb ∧ (∀ i, i < s + 1 → FlagAt w Sb i ByteArray.empty ByteArray.empty ByteArray.empty 0) ∧ ∀ p, p ∈ pts → p.1 = Sb → s + 1 ≤ p.2)

/-- The flags that have been declared. -/
def Flags (base : Nat) (pts : List (Nat × Nat)) (nm hp : Nat → ByteArray) (sh : Nat → Int) (w : World) : Prop :=
  pts.Nodup ∧ ∀ j p, pts[j]? = some p → base ≤ p.1 ∧ FlagAt w p.1 p.2 (nm j) (hp j) (nm j) (sh j)

/-- THE INVARIANT. -/
structure Inv (C base : Nat) (prog : ByteArray) (pts : List (Nat × Nat)) (nm hp : Nat → ByteArray) (sh : Nat → Int) (w : World) (vF vS : Value) : Prop where
  below : C < base
  room : base ≤ w.heap.size
  flags : Flags base pts nm hp sh w
  cmd : Cmd w C prog vF vS
  own : w.ownsRow base 29 1 vF pts.length (pts.map adr)
  spare : Spare base pts w vS

theorem Flags.far {base C : Nat} {pts : List (Nat × Nat)} {nm hp : Nat → ByteArray} {sh : Nat → Int} {w : World} (h : Flags base pts nm hp sh w) (hC : C < base) (o : Nat) (v : Value) : Flags base pts nm hp sh (w.setCell ⟨C, o, none⟩ v) :=
  ⟨h.1, fun j p hj => ⟨(h.2 j p hj).1, (h.2 j p hj).2.setCell_far (by have := (h.2 j p hj).1; show p.1 ≠ C; omega) v⟩⟩
theorem Flags.alloc {base : Nat} {pts : List (Nat × Nat)} {nm hp : Nat → ByteArray} {sh : Nat → Int} {w : World} (h : Flags base pts nm hp sh w) (o : Obj) : Flags base pts nm hp sh (w.alloc o) :=
  ⟨h.1, fun j p hj => ⟨(h.2 j p hj).1, (h.2 j p hj).2.alloc o⟩⟩

/-- newFlag: a zero flag that nobody holds. -/
theorem newFlag_inv (C base : Nat) (prog : ByteArray) (pts : List (Nat × Nat)) (nm hp : Nat → ByteArray) (sh : Nat → Int) (vF vS : Value) (w : World) (h : Inv C base prog pts nm hp sh w vF vS) :
    Calls Try.prog 21 #[.pointer (some ⟨C, 0, none⟩)] w fun e w' => ∃ b i vS', e = .returned (.pointer (some ⟨b, i * 17, none⟩)) ∧ Inv C base prog pts nm hp sh w' vF vS' ∧ base ≤ b ∧ (b, i) ∉ pts ∧
      FlagAt w' b i ByteArray.empty ByteArray.empty ByteArray.empty 0 ∧ Spare base (pts ++ [(b, i)]) w' vS' ∧ Kept C base w w' := by
  obtain ⟨hCb, hroom, hfl, hcmd, hown, hsp⟩ := h
  rcases hsp with ⟨ao, cap, rfl, hcap⟩ | ⟨Sb, s, cap, rfl, hsc, hcap, hSb, hz, hfree⟩
  · -- a new row is made
    refine (newFlag_make C cap ao prog vF w hcmd hcap).mono ?_
    rintro e w' ⟨s, hs, rfl, rfl⟩
    have hpt : ∀ p, p ∈ pts → p.1 < w.heap.size := fun p hp => by
      obtain ⟨j, hj⟩ := List.getElem?_of_mem hp
      exact (hfl.2 j p hj).2.lt
    have hz : ∀ i, i < s + 1 → FlagAt (((w.setCell ⟨C, 8, none⟩ (.slice (some ⟨w.heap.size, 0, none⟩) (s + 1) (s + 1))).setCell ⟨C, 8, none⟩ (.slice (some ⟨w.heap.size, 0, none⟩) s (s + 1))).alloc (flagRow (s + 1))) w.heap.size i ByteArray.empty ByteArray.empty ByteArray.empty 0 := fun i hi => by
      have := flag_made ((w.setCell ⟨C, 8, none⟩ (.slice (some ⟨w.heap.size, 0, none⟩) (s + 1) (s + 1))).setCell ⟨C, 8, none⟩ (.slice (some ⟨w.heap.size, 0, none⟩) s (s + 1))) (s + 1) i hi
      have hsz : ((w.setCell ⟨C, 8, none⟩ (.slice (some ⟨w.heap.size, 0, none⟩) (s + 1) (s + 1))).setCell ⟨C, 8, none⟩ (.slice (some ⟨w.heap.size, 0, none⟩) s (s + 1))).heap.size = w.heap.size := by simp [World.setCell]
      rw [hsz] at this
      exact this
    have hsp : ∀ ps : List (Nat × Nat), (∀ p, p ∈ ps → p.1 = w.heap.size → s ≤ p.2) → Spare base ps (((w.setCell ⟨C, 8, none⟩ (.slice (some ⟨w.heap.size, 0, none⟩) (s + 1) (s + 1))).setCell ⟨C, 8, none⟩ (.slice (some ⟨w.heap.size, 0, none⟩) s (s + 1))).alloc (flagRow (s + 1))) (.slice (some ⟨w.heap.size, 0, none⟩) s (s + 1)) := fun ps hps => by
      rcases s with _ | s
      · exact .inl ⟨_, _, rfl, by omega⟩
      · exact .inr ⟨_, s, _, rfl, by omega, by omega, hroom, fun i hi => hz i (by omega), hps⟩
    refine ⟨w.heap.size, s, .slice (some ⟨w.heap.size, 0, none⟩) s (s + 1), rfl, ⟨hCb, ?_, ?_, ?_, ?_, ?_⟩, hroom, ?_, hz s (by omega), ?_, ?_⟩
    · simp [World.setCell]; omega
    · exact ((hfl.far hCb _ _).far hCb _ _).alloc _
    · exact ((hcmd.setSpare _).setSpare _).alloc _
    · exact ((ownsRow_setCell_below (ownsRow_setCell_below hown hCb _) hCb _)).alloc _
    · exact hsp pts (fun p hp e => by have := hpt p hp; omega)
    · intro hm
      have := hpt _ hm
      simp at this
    · refine hsp _ (fun p hp e => ?_)
      rcases List.mem_append.1 hp with h | h
      · have := hpt p h; omega
      · simp at h; rw [h]; simp
    · exact (((Kept.refl C base w).setCell (.inl rfl) _).setCell (.inl rfl) _).alloc (by simp [World.setCell]; omega) _
  · -- the last of the spare row
    refine (newFlag_spare C Sb s cap prog vF w hcmd hsc hcap).mono ?_
    rintro e w' ⟨rfl, rfl⟩
    have hne : ∀ i, i < s + 1 → (Sb : Nat) ≠ C := fun i hi => by omega
    have hz' : ∀ i, i < s + 1 → FlagAt (w.setCell ⟨C, 8, none⟩ (.slice (some ⟨Sb, 0, none⟩) s cap)) Sb i ByteArray.empty ByteArray.empty ByteArray.empty 0 := fun i hi => (hz i hi).setCell_far (by show Sb ≠ C; omega) _
    have hsp : ∀ ps : List (Nat × Nat), (∀ p, p ∈ ps → p.1 = Sb → s ≤ p.2) → Spare base ps (w.setCell ⟨C, 8, none⟩ (.slice (some ⟨Sb, 0, none⟩) s cap)) (.slice (some ⟨Sb, 0, none⟩) s cap) := fun ps hps => by
      rcases s with _ | s
      · exact .inl ⟨_, _, rfl, hcap⟩
      · exact .inr ⟨_, s, _, rfl, by omega, hcap, hSb, fun i hi => hz' i (by omega), hps⟩
    refine ⟨Sb, s, .slice (some ⟨Sb, 0, none⟩) s cap, rfl, ⟨hCb, ?_, hfl.far hCb _ _, hcmd.setSpare _, ownsRow_setCell_below hown hCb _, ?_⟩, hSb, ?_, hz' s (by omega), ?_, ?_⟩
    · simp [World.setCell]; omega
    · exact hsp pts (fun p hp e => by have := hfree p hp e; omega)
    · intro hm
      have := hfree _ hm rfl
      simp at this
      omega
    · refine hsp _ (fun p hp e => ?_)
      rcases List.mem_append.1 hp with h | h
      · have := hfree p h e; omega
      · simp at h; rw [h]; simp
    · exact (Kept.refl C base w).setCell (.inl rfl) _
end Go.Proofs.Qxb6609532a
