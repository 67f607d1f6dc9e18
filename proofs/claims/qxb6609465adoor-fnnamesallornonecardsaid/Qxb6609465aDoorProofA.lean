/-
  FROM THE LISTED DATUM TO WHAT THE WALKS ASK.
-/
import Derived.Test.Qxb6609465aDoorRows
import Derived.Test.Qxb6609465aDoorWalksA
import Derived.ProofKit
import Derived.LaidMore
import Derived.Deep.Slices
import Derived.Deep.Strs
import Derived.WalkSmall
namespace Go.Proofs.Qxb6609465aDoor
open Go.ChangeShapes Go.WideShapes Go.ChangeAt Go.RowKit Go.Deep

/-- The listed variable's name. -/
def gname : String := Rows.fnNamesAllOrNoneSpec.vars.headD ""
theorem gI : Tryd.prog.globalNamed gname = some 0 := by kernel_rfl
theorem tI : (Tryd.prog.globals[0]?).map (·.type) = some 38 := by kernel_rfl
theorem Tryd.cells32 : Tryd.prog.cellsOf 32 = 3 := by kernel_rfl
theorem Tryd.cells28 : Tryd.prog.cellsOf 28 = 1 := by kernel_rfl
theorem Tryd.cells29 : Tryd.prog.cellsOf 29 = 1 := by kernel_rfl
theorem Tryd.cells30 : Tryd.prog.cellsOf 30 = 1 := by kernel_rfl

theorem bytes_eq {s t : ByteArray} (h : s.data.toList = t.data.toList) : s = t := by
  cases s; cases t
  simp only [ByteArray.mk.injEq]
  exact Array.toList_inj.1 h

/-- The seven data, element by element. -/
theorem key_of {H : Type} {D : Nat → DataW H} {len : Nat} {r : List (DataW H)} (h : (Rows.laid_example_com_pathweave_pathweave_route_intents : DataW H) = .slice ((List.range len).map D) r) :
    len = 7 ∧ ∀ k, k < 7 → ∃ x y, D k = .agg [.lit (.string (nms.getD k ByteArray.empty).data.toList), x, y] := by
  unfold Rows.laid_example_com_pathweave_pathweave_route_intents at h
  simp only [DataW.slice.injEq] at h
  obtain ⟨h, _⟩ := h
  have hl : len = 7 := by have := congrArg List.length h; simpa using this.symm
  subst hl
  refine ⟨rfl, fun k hk => ?_⟩
  have e : ((List.range 7).map D)[k]? = some (D k) := by rw [List.getElem?_map, List.getElem?_range hk]; rfl
  rw [← h] at e
  obtain rfl | rfl | rfl | rfl | rfl | rfl | rfl : k = 0 ∨ k = 1 ∨ k = 2 ∨ k = 3 ∨ k = 4 ∨ k = 5 ∨ k = 6 := by omega
  all_goals exact ⟨_, _, (Option.some.inj e).symm⟩

theorem of_laid {W : World} (h : laidMetH Tryd.prog Rows.fnNamesAllOrNoneRow.laid W) :
    ∃ b off cap, Table W b off cap ∧ W.var? Tryd.prog gname = some #[.slice (some ⟨b, off, none⟩) 7 cap] := by
  rw [MakeChecks.laidMetH_plain _ _ _ (by kernel_rfl)] at h
  obtain ⟨ps, ⟨g0, t0, cs0, f0, p0, q0, hg0, ht0, hv0, hd0, _, _⟩, _, _⟩ := h
  obtain rfl := Option.some.inj (gI.symm.trans hg0)
  obtain rfl := Option.some.inj (tI.symm.trans ht0)
  rcases open_slice Tryd.underlying38 hd0 with ⟨_, hx⟩ | ⟨a, len, cap, m, n, D, Pl, hcs, _, hlc, _, hm, hx, hel⟩
  · simp [Rows.laid_example_com_pathweave_pathweave_route_intents] at hx
  simp only [Prod.mk.injEq] at hx
  obtain ⟨rfl, hD⟩ := key_of hx.1
  simp only [if_true] at hm
  have hm7 : 7 ≤ m := by omega
  obtain ⟨b, off, spot⟩ := a
  have hspot : spot = none := by
    obtain ⟨cs', hc', _⟩ := hel 0 (by omega)
    rw [Tryd.cells32] at hc'
    obtain ⟨_, hl', hcell⟩ := World.cells?_some hc'
    have k0 := hcell 0 (by omega)
    match cs', hl' with
    | [c0, c1, c2], _ =>
      have k0' : W.cell? ⟨b, off, spot⟩ = some c0 := by simpa [Addr.add] using k0
      simpa using World.cell?_spot k0'
  subst hspot
  have cells : ∀ k, k < 7 → ∃ q mm, W.cell? ⟨b, off + k * 3, none⟩ = some (.string (nms.getD k ByteArray.empty)) ∧ W.cell? ⟨b, off + k * 3 + 1, none⟩ = some (.int .u8 q) ∧ W.cell? ⟨b, off + k * 3 + 2, none⟩ = some (.string mm) := by
    intro k hk
    obtain ⟨x, y, hDk⟩ := hD k hk
    obtain ⟨cs', hc', hr'⟩ := hel k (by omega)
    rw [Tryd.cells32, add_plain] at hc'
    obtain ⟨_, hl', hcell⟩ := World.cells?_some hc'
    obtain ⟨y0, y1, y2, n', hy, _, h0, h1, h2⟩ := trod_struct3 Tryd.underlying32 hr'
    rw [hDk] at hy
    simp only [Prod.mk.injEq, DataW.agg.injEq, List.cons.injEq] at hy
    match cs', hl' with
    | [c0, c1, c2], _ =>
      simp only [Tryd.cells28, Tryd.cells29, Tryd.cells30] at h0 h1 h2
      obtain ⟨s0, e0, r0, _⟩ := DataW.trod_string Tryd.underlying28 h0
      obtain ⟨q1, e1, _, _⟩ := DataW.trod_int Tryd.underlying29 h1
      obtain ⟨s2, e2, _, _⟩ := DataW.trod_string Tryd.underlying30 h2
      simp at e0 e1 e2
      subst e0 e1 e2
      have hs : s0 = nms.getD k ByteArray.empty := by
        apply bytes_eq
        rw [r0] at hy
        have := hy.1.1
        simpa using this.symm
      have k0 := hcell 0 (by omega)
      have k1 := hcell 1 (by omega)
      have k2 := hcell 2 (by omega)
      rw [add_plain] at k0 k1 k2
      rw [hs] at k0
      exact ⟨q1, s2, k0, k1, k2⟩
  have hb : b < W.heap.size := by
    obtain ⟨q, mm, c00, _⟩ := cells 0 (by omega)
    rcases Nat.lt_or_ge b W.heap.size with h | h
    · exact h
    · simp [World.cell?, Array.getElem?_eq_none h] at c00
  have ecs : cs0 = #[.slice (some ⟨b, off, none⟩) 7 cap] := Array.eq_one_of_toList hcs
  subst ecs
  have hvar := World.var?_cell hg0 hv0 0
  exact ⟨b, off, cap, ⟨by simpa using hvar, hb, cells⟩, hv0⟩
end Go.Proofs.Qxb6609465aDoor
