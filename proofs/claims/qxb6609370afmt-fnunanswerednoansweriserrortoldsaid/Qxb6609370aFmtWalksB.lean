/-
  THE WALK over gateway.NoAnswer; what the map that it makes answers.
-/
import Derived.Test.Qxb6609370aFmtProg
import Derived.WalkKit
import Derived.WalkSpells
import Derived.WalkLawsBesides
import Derived.WideMake
import Derived.Outline
namespace Go.Proofs.Qxb6609370aFmt
open Go.RowKit

theorem push3 (h : Array Obj) (a m m' c : Obj) : (((h.push a).push m).push c).setIfInBounds (h.size + 1) m' = ((h.push a).push m').push c := by
  apply Array.ext_getElem?
  intro i
  simp only [Array.getElem?_setIfInBounds, Array.getElem?_push, Array.size_push]
  by_cases h1 : h.size + 1 = i
  · subst h1; simp
  · simp only [if_neg h1]
    by_cases h2 : i = h.size + 1 + 1
    · simp [h2]
    · have h3 : ¬ i = h.size + 1 := fun e => h1 e.symm
      simp [h2, h3]

theorem mid3 (h : Array Obj) (a m c : Obj) : (((h.push a).push m).push c)[h.size + 1]? = some m := by
  rw [Array.getElem?_push, if_neg (by simp), Array.getElem?_push, if_pos (by simp)]

theorem map_first (why : ByteArray) (A C : Obj) (w : World) :
    (Instr.mapUpdate 26 (.map (some (w.heap.size + 1))) (.string ⟨#[101, 114, 114, 111, 114]⟩) (.iface 9 (.string why))).run Tryf.prog (((w.alloc A).alloc (.map #[] 0)).alloc C) =
      .ok () (((w.alloc A).alloc (.map #[{ key := .string ⟨#[101, 114, 114, 111, 114]⟩, val := .iface 9 (.string why), born := 0 }] 1)).alloc C) := by
  have hb : (((w.alloc A).alloc (.map #[] 0)).alloc C).heap[w.heap.size + 1]? = some (.map #[] 0) := by
    show (((w.heap.push A).push _).push C)[w.heap.size + 1]? = _
    exact mid3 _ _ _ _
  rw [run_mapUpdate_first _ 26 9 20 _ 0 _ _ Tryf.underlying26 Tryf.underlying9 hb]
  have := push3 w.heap A (.map #[] 0) (.map #[{ key := .string ⟨#[101, 114, 114, 111, 114]⟩, val := .iface 9 (.string why), born := 0 }] 1) C
  show Result.ok () { w with heap := (((w.heap.push A).push _).push C).setIfInBounds (w.heap.size + 1) _ } = _
  rw [this]
  rfl

theorem noAnswer_empty (why : ByteArray) (hy : why.toList.isEmpty = true) (ao : Option Addr) (n c : Nat) (w : World) :
    Calls Tryf.prog 6 #[.string why, .slice ao n c] w fun e w' =>
      e = .returned (.agg #[.string ⟨#[110, 111, 110, 101]⟩, .int .i64 0, .map (some (w.heap.size + 1)), .slice ao n c]) ∧ Below w.heap.size w w' ∧ w.heap.size + 1 < w'.heap.size ∧ w'.heap[w.heap.size + 1]? = some (.map #[] 0) := by
  have hmm := @run_makeMap Tryf.prog
  go_enter Tryf.func6, Tryf.ntmps6
  go_wp2
  refine bodyPost_ret (v := .agg #[.string ⟨#[110, 111, 110, 101]⟩, .int .i64 0, .map (some (w.heap.size + 1)), .slice ao n c]) (by simp [results, Tryf.results6, go_sem]) rfl ⟨rfl, ?_, ?_, ?_⟩
  · exact ((((Below.refl _ _).alloc (Nat.le_refl _) _).alloc (by simp) _).alloc (by simp; omega) _)
  · simp
  · show (((w.heap.push _).push _).push _)[w.heap.size + 1]? = _
    exact mid3 _ _ _ _

theorem noAnswer_why (why : ByteArray) (hy : why.toList.isEmpty = false) (ao : Option Addr) (n c : Nat) (w : World) :
    Calls Tryf.prog 6 #[.string why, .slice ao n c] w fun e w' =>
      e = .returned (.agg #[.string ⟨#[110, 111, 110, 101]⟩, .int .i64 0, .map (some (w.heap.size + 1)), .slice ao n c]) ∧ Below w.heap.size w w' ∧ w.heap.size + 1 < w'.heap.size ∧
        w'.heap[w.heap.size + 1]? = some (.map #[{ key := .string ⟨#[101, 114, 114, 111, 114]⟩, val := .iface 9 (.string why), born := 0 }] 1) := by
  have hmm := @run_makeMap Tryf.prog
  have hmf := fun A C => map_first why A C w
  go_enter Tryf.func6, Tryf.ntmps6
  go_wp2
  refine bodyPost_ret (v := .agg #[.string ⟨#[110, 111, 110, 101]⟩, .int .i64 0, .map (some (w.heap.size + 1)), .slice ao n c]) (by simp [results, Tryf.results6, go_sem]) rfl ⟨rfl, ?_, ?_, ?_⟩
  · exact ((((Below.refl _ _).alloc (Nat.le_refl _) _).alloc (by simp) _).alloc (by simp; omega) _)
  · simp
  · show (((w.heap.push _).push _).push _)[w.heap.size + 1]? = _
    exact mid3 _ _ _ _

/-- A look-up in a map that holds nothing. -/
theorem look_none (r : Nat) (k : ByteArray) (w : World) (hb : w.heap[r]? = some (.map #[] 0)) :
    (Instr.lookup 26 (.map (some r)) (.string k) true).run Tryf.prog w = .ok (.tuple #[.nilIface, .bool false]) w ∧
    (Instr.lookup 26 (.map (some r)) (.string k) false).run Tryf.prog w = .ok .nilIface w := by
  have hz : (zeroValue 20).run Tryf.prog w = .ok .nilIface w := by kernel_rfl
  have hf : Instr.findNow .string (.string k) ([] : List MapEntry) 0 = some none := rfl
  have hc : ∀ b, (Instr.checkKey b 10000 9 (.string k)).run Tryf.prog w = .ok () w := fun b => MapKept.run_checkKey (k := .string k) Tryf.underlying9 (by simp [MapKept.IsKey]) b 9999
  constructor <;> simp [Instr.lookup, run_underlying Tryf.underlying26, MapKept.run_getObj_map hb, hc, MapKept.run_findKey Tryf.underlying9 hf, hz, Result.andThen]

/-- A look-up in a map of one entry: another key, and the very key. -/
theorem look_one (r : Nat) (why : ByteArray) (w : World) (hb : w.heap[r]? = some (.map #[{ key := .string ⟨#[101, 114, 114, 111, 114]⟩, val := .iface 9 (.string why), born := 0 }] 1)) :
    (Instr.lookup 26 (.map (some r)) (.string ⟨#[104, 116, 116, 112, 95, 115, 116, 97, 116, 117, 115]⟩) true).run Tryf.prog w = .ok (.tuple #[.nilIface, .bool false]) w ∧
    (Instr.lookup 26 (.map (some r)) (.string ⟨#[101, 114, 114, 111, 114]⟩) false).run Tryf.prog w = .ok (.iface 9 (.string why)) w := by
  have hz : (zeroValue 20).run Tryf.prog w = .ok .nilIface w := by kernel_rfl
  have hf1 : Instr.findNow .string (.string ⟨#[104, 116, 116, 112, 95, 115, 116, 97, 116, 117, 115]⟩) ([{ key := .string ⟨#[101, 114, 114, 111, 114]⟩, val := .iface 9 (.string why), born := 0 }] : List MapEntry) 0 = some none := by kernel_rfl
  have hf2 : Instr.findNow .string (.string ⟨#[101, 114, 114, 111, 114]⟩) ([{ key := .string ⟨#[101, 114, 114, 111, 114]⟩, val := .iface 9 (.string why), born := 0 }] : List MapEntry) 0 = some (some (0, .iface 9 (.string why))) := by kernel_rfl
  have hc : ∀ b k, (Instr.checkKey b 10000 9 (.string k)).run Tryf.prog w = .ok () w := fun b k => MapKept.run_checkKey (k := .string k) Tryf.underlying9 (by simp [MapKept.IsKey]) b 9999
  constructor <;> simp [Instr.lookup, run_underlying Tryf.underlying26, MapKept.run_getObj_map hb, hc, MapKept.run_findKey Tryf.underlying9 hf1, MapKept.run_findKey Tryf.underlying9 hf2, hz, Result.andThen]

/-- How many entries it holds. -/
theorem len_map (r : Nat) (es : Array MapEntry) (clock : Nat) (w : World) (hb : w.heap[r]? = some (.map es clock)) :
    (Builtin.len_ #[26] 3 #[.map (some r)]).run Tryf.prog w = .ok (goInt es.size) w := by
  simp [Builtin.len_, run_underlying Tryf.underlying26, MapKept.run_getObj_map hb]
end Go.Proofs.Qxb6609370aFmt
