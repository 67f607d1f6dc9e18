/-
  THE PROOF of 'Rows.FnFlagDeclaresEachInOrderSaid': the row's step out of the law's walk.
-/
import Derived.Test.Qxb6609532aRows
import Derived.Test.Qxb6609532aWalksF
import Derived.ProofKit
import Derived.Carry
import Derived.SliceStrings
namespace Go.Proofs.Qxb6609532a
open Go.ChangeShapes Go.WideShapes Go.ChangeAt Go.RowKit
open Go.ChangeMaps (open_string shut_string)

theorem Try.own : ownKnob Try.prog.godebug = none := by kernel_rfl
theorem Try.laidOut : laidOutB Try.prog = true := by kernel_rfl
theorem Try.cells9 : Try.prog.cellsOf 9 = 1 := by kernel_rfl

theorem law_any (prog : ByteArray) (xs ys : List ByteArray) (ao a2 : Option Addr) (n c m d : Nat) (w : World) (h : ArgS w xs ao n c) (h2 : ArgS w ys a2 m d) (hp : prog.size ≤ maxLen) (hn : n ≤ maxLen) (hm : m ≤ maxLen) :
    Calls Try.prog 3 #[.string prog, .slice ao n c, .slice a2 m d] w fun e w' => e = .returned (.bool true) ∧ Below w.heap.size w w' := by
  unfold maxLen at hp hn hm
  by_cases hbig : 1048576 < prog.size ∨ 65536 < n ∨ 65536 < m
  · exact law_bytes prog xs ys ao a2 n c m d w h h2 hp hn hm hbig
  · exact law_run prog xs ys ao a2 n c m d w h h2 (by omega) (by omega) (by omega)

/-- An argument of strings, opened. -/
theorem arg_of {H : Type} {enc : TypeId × Value → H} {W : World} {ao : Option Addr} {len cap : Nat} {d : DataW H} {p : List MemPlace} {fuel : Nat}
    (hf : DataW.trod enc Try.prog W 0 (fun _ => true) true fuel 22 (Value.slice ao len cap).cells.toList = some (d, p)) : len ≤ maxLen ∧ ∃ xs, ArgS W xs ao len cap := by
  rcases open_strings Try.underlying22 Try.underlying9 Try.cells9 hf with ⟨hcs, hx⟩ | ⟨a, len', cap', ss, hcs, _, hl, hm, hz, hx, hcell, hws⟩
  · simp [Value.cells] at hcs
    obtain ⟨rfl, rfl, rfl⟩ := hcs
    exact ⟨by unfold maxLen; omega, [], .inl ⟨rfl, rfl, rfl⟩⟩
  · simp [Value.cells] at hcs
    obtain ⟨rfl, rfl, rfl⟩ := hcs
    simp only [if_true] at hz
    refine ⟨by omega, ?_⟩
    by_cases hl0 : len = 0
    · subst hl0
      exact ⟨[], .inr (.inl ⟨a, rfl, rfl⟩)⟩
    · obtain ⟨b, off, spot⟩ := a
      have hspot : spot = none := by simpa [Addr.add] using World.cell?_spot (hcell 0 (by omega))
      subst hspot
      have hc0 := hcell 0 (by omega)
      refine ⟨ss, .inr (.inr ⟨b, off, rfl, ?_, fun j hj => by rw [← add_plain]; exact hcell j (by omega)⟩)⟩
      rcases Nat.lt_or_ge b W.heap.size with h | h
      · exact h
      · simp [World.cell?, Addr.add, Array.getElem?_eq_none h] at hc0

set_option maxRecDepth 100000 in
theorem lifted (os : Os) (started : os.Started) (H : Type) (enc : TypeId × Value → H) :
    ReturnsInHanded {} Try.checked os 3 .any (Rows.fnFlagDeclaresEachInOrderSpec.pre6 enc Try.prog Try.f3 Rows.fnFlagDeclaresEachInOrderRow.domain false) (Rows.fnFlagDeclaresEachInOrderSpec.post enc Try.prog Try.f3 false true false false) := by
  refine returnsInHanded_of_change (C := Try.checked) Try.own started (by kernel_rfl) Try.func3
    (ChangeSpec.witness6 (enc := enc) (C := Try.checked) false ⟨#[], #[.string ⟨#[]⟩, .slice none 0 0, .slice none 0 0], []⟩ 8 (by kernel_rfl) (by kernel_rfl) (by kernel_rfl) (by kernel_rfl)) ?_
  intro W base args ds gs before hval0 hW hcnd _
  have hval : ∀ (j : Nat) t v, Try.f3.params[j]? = some t → args[j]? = some v → Value.okWide Try.prog W .any base t v := hval0
  have hW' := hW
  obtain ⟨p, q, hA0, hV, rfl, hfz, hnd⟩ := hW
  have hA : DataW.TrodAll enc Try.prog W 0 (fun _ => true) true Try.f3.params.toList args.toList ds p := hA0
  rw [Try.params3] at hA hval
  obtain ⟨v0, v1, v2, d0, d1, d2, p0, p1, p2, rfl, rfl, rfl, h0, h1, h2⟩ := trodAll_three hA
  obtain ⟨rfl, rfl⟩ := trodVars_none hV
  obtain ⟨prog, rfl, rfl, rfl, hprog⟩ := open_string Try.underlying9 (hval 0 9 v0 rfl rfl) h0
  obtain ⟨a1, n1, c1, rfl⟩ := okWide_slice Try.underlying22 (hval 1 22 v1 rfl rfl)
  obtain ⟨a2, n2, c2, rfl⟩ := okWide_slice Try.underlying22 (hval 2 22 v2 rfl rfl)
  have h1k := h1
  have h2k := h2
  obtain ⟨f1, hf1⟩ := h1
  obtain ⟨f2, hf2⟩ := h2
  clear hA0 hval0
  simp only [List.append_nil, List.nil_append] at hW'
  have hlt1 : ∀ x ∈ p1, x.block < W.heap.size := fun x hx => by simpa using hW'.lt x (List.mem_append_left _ hx)
  have hlt2 : ∀ x ∈ p2, x.block < W.heap.size := fun x hx => by simpa using hW'.lt x (List.mem_append_right _ hx)
  obtain ⟨hn1, xs, hx1⟩ := arg_of hf1
  obtain ⟨hn2, ys, hx2⟩ := arg_of hf2
  refine (law_any prog xs ys a1 a2 n1 c1 n2 c2 W hx1 hx2 hprog hn1 hn2).mono fun e W' ⟨he, hnx⟩ => ?_
  subst he
  have t1 := Below.trod Try.laidOut (by kernel_rfl) (of_decide_eq_true (by kernel_rfl)) h1k hnx hlt1
  have t2 := Below.trod Try.laidOut (by kernel_rfl) (of_decide_eq_true (by kernel_rfl)) h2k hnx hlt2
  have hTA := trodAll_mk3 (p := []) (p' := p1) (p'' := p2) (shut_string Try.underlying9 hprog) t1 t2
  simp only [List.nil_append] at hTA
  exact ⟨_, rfl, _, _, _, [], p1 ++ p2, [], hW', trodAll_mk1 (shut_bool Try.underlying4 true), hTA, rfl, hnx.frame _, fun h => by cases h⟩

/-- ████ THE STATEMENT ████ -/
theorem proved : Rows.FnFlagDeclaresEachInOrderSaid :=
  OpenClaim.holds_of_wide 3 Try.f3 rfl rfl rfl rfl rfl rfl rfl ⟨rfl, rfl, rfl, rfl, rfl⟩ rfl rfl rfl rfl rfl (by kernel_rfl) Try.func3 (by kernel_rfl)
    (of_decide_eq_true (by kernel_rfl)) (by unfold Func.isWrapper; first | (rw [if_pos (by decide +kernel)]; kernel_rfl) | (rw [if_neg (by decide +kernel)]; exact ⟨rfl, rfl⟩))
    (fun os started H enc _ => lifted os started H enc)
#print axioms proved
end Go.Proofs.Qxb6609532a
