/-
  THE TIED CARD OF 'FnNamesAllOrNone', PROVED: the row's step out of the law's walks; the card by the builder's one call.
-/
import Derived.Test.Qxb6609465aDoorCards
import Derived.Test.Qxb6609465aDoorTie
import Derived.Test.Qxb6609465aDoorProofA
import Derived.OpenShut
import Derived.Carry
import Derived.Stop.Joined
import Derived.SevenTiedAt
namespace Go.Proofs.Qxb6609465aDoor
open Go.ChangeShapes Go.WideShapes Go.ChangeAt Go.RowKit Go.Deep

theorem Tryd.own : ownKnob Tryd.prog.godebug = none := by kernel_rfl
theorem Tryd.laidOut : laidOutB Tryd.prog = true := by kernel_rfl

/-- The door's own heap meets the condition. -/
theorem door_met (os : Os) (args : Array Value) : laidMetH Tryd.prog Rows.fnNamesAllOrNoneRow.laid ((World.doorLaid Tryd.prog 30 os).forCall (fun _ _ => 0) ⟨#[], args, []⟩).memory :=
  laidMetH_of_parts3 (fuel := 8) (laidMet_of_run' 8 (by kernel_rfl) (by kernel_rfl)) (by kernel_rfl) (by kernel_rfl)

set_option maxRecDepth 100000 in
theorem lifted (os : Os) (started : os.Started) (H : Type) (enc : TypeId × Value → H) :
    ReturnsInHanded {} Tryd.checked os 3 .any (fun w args => (Rows.fnNamesAllOrNoneSpec.pre enc Tryd.prog Tryd.f3 [] false w args ∧ laidMetH Tryd.prog Rows.fnNamesAllOrNoneRow.laid w) ∧ sizedMet enc Tryd.prog Tryd.f3 (OpenSpec.ofChange Rows.fnNamesAllOrNoneSpec) false w args)
      (Rows.fnNamesAllOrNoneSpec.post enc Tryd.prog Tryd.f3 false true false false) := by
  refine returnsInHanded_of_change_and (C := Tryd.checked) (X := fun w _ => laidMetH Tryd.prog Rows.fnNamesAllOrNoneRow.laid w) (fun _ _ _ hh h => h.of_heap hh) Tryd.own started (by kernel_rfl) Tryd.func3
    (ChangeSpec.witness_shaped (enc := enc) (C := Tryd.checked) (os := os) (X := fun w _ => laidMetH Tryd.prog Rows.fnNamesAllOrNoneRow.laid w) false (World.doorLaid Tryd.prog 30 os) #[.bool false] 8 rfl (World.shaped_of_RefB (by kernel_rfl) (by kernel_rfl)) (by kernel_rfl) (by kernel_rfl) (by kernel_rfl) (door_met os _)) ?_
  intro W base args ds gs before hval0 hW _ _ hL _
  have hval : ∀ (j : Nat) t v, Tryd.f3.params[j]? = some t → args[j]? = some v → Value.okWide Tryd.prog W .any base t v := hval0
  have hW' := hW
  obtain ⟨p, q, hA0, hV0, rfl, hfz, hnd⟩ := hW
  have hA : DataW.TrodAll enc Tryd.prog W 0 (fun _ => true) true Tryd.f3.params.toList args.toList ds p := hA0
  have hV : DataW.TrodVars enc Tryd.prog W (fun _ => true) [gname] gs q := hV0
  rw [Tryd.params3] at hA hval
  obtain ⟨v0, d0, rfl, rfl, h0⟩ := trodAll_one hA
  obtain ⟨kp, rfl, rfl, rfl⟩ := open_bool Tryd.underlying4 (hval 0 4 v0 rfl rfl) h0
  obtain ⟨g, t, cs, fuel, d, p', rfl, hg, ht, hvar, hd, rfl⟩ := trodVars_one hV
  obtain rfl := Option.some.inj (gI.symm.trans hg)
  obtain rfl := Option.some.inj (tI.symm.trans ht)
  obtain ⟨b, off, cap, hT, hvar2⟩ := of_laid hL
  obtain rfl := Option.some.inj (hvar2.symm.trans hvar)
  clear hA0 hV0 hval0
  simp only [List.nil_append] at hW'
  have h0lt : 0 < W.heap.size := Nat.lt_of_le_of_lt (Nat.zero_le _) hT.2.1
  have hlt : ∀ x ∈ p', x.block < W.heap.size := fun x hx => by simpa using hW'.lt x (List.mem_append_right _ hx)
  have hvars : ∀ W', Below W.heap.size W W' → DataW.TrodVars enc Tryd.prog W' (fun b => decide (b < W.heap.size)) [gname] [d] (MemPlace.row ⟨0, 0, none⟩ 1 ++ p') := fun W' hb => by
    obtain ⟨fuel', hd'⟩ := Below.trod (v := .slice (some ⟨b, off, none⟩) 7 cap) Tryd.laidOut (by kernel_rfl) (of_decide_eq_true (by kernel_rfl)) ⟨fuel, hd⟩ hb hlt
    exact trodVars_mk1 gI tI (var?_below hb gI h0lt hvar) hd'
  have fin : ∀ (kp : Bool) (W' : World), DataW.Whole enc Tryd.prog Tryd.f3.params.toList Rows.fnNamesAllOrNoneSpec.vars false W [.bool kp] [.lit (.bool kp)] [d] (MemPlace.row ⟨0, 0, none⟩ 1 ++ p') → Below W.heap.size W W' →
      Rows.fnNamesAllOrNoneSpec.post enc Tryd.prog Tryd.f3 false true false false W #[.bool kp] (.bool true) W' := fun kp W' hwh hb =>
    ⟨_, _, _, [], [], _, hwh, trodAll_mk1 (shut_bool Tryd.underlying4 _), trodAll_mk1 (shut_bool Tryd.underlying4 _), hvars W' hb, hb.frame _, fun h => by cases h⟩
  cases kp
  · refine (law_none b off cap W h0lt hT).mono fun e W' ⟨he, hb⟩ => ?_
    subst he
    exact ⟨_, rfl, fin false W' hW' hb⟩
  · refine (law_all b off cap W h0lt hT).mono fun e W' ⟨he, hb⟩ => ?_
    subst he
    exact ⟨_, rfl, fin true W' hW' hb⟩

theorem row_holds : Rows.FnNamesAllOrNoneSaid :=
  OpenClaim.holds_of_wide 3 Tryd.f3 rfl rfl rfl rfl rfl rfl rfl ⟨rfl, rfl, rfl, rfl, rfl⟩ rfl rfl rfl rfl rfl (by kernel_rfl) Tryd.func3 (by kernel_rfl)
    (of_decide_eq_true (by kernel_rfl)) (by unfold Func.isWrapper; first | (rw [if_pos (by decide +kernel)]; kernel_rfl) | (rw [if_neg (by decide +kernel)]; exact ⟨rfl, rfl⟩))
    (fun os started H enc _ => lifted os started H enc)

/-- ████ THE STATEMENT ████ -/
theorem proved : Rows.FnNamesAllOrNoneCardSaid :=
  Claim7.holds_tied_plain_at .later [] [.data] true _ false
    row_holds (fun _ h => by cases h) (by kernel_rfl) (fun _ h => by cases h) fnNamesAllOrNone_row_tie rfl ⟨rfl, rfl⟩ (by kernel_rfl) rfl
    (fun f fn hf hfn => by
      obtain rfl : f = 3 := Option.some.inj ((show Tryd.prog.funcNamed Rows.fnNamesAllOrNoneRow.func = some 3 by kernel_rfl).symm.trans hf) |>.symm
      obtain rfl : fn = Tryd.f3 := (Option.some.inj (Tryd.func3.symm.trans hfn)).symm
      exact ⟨by kernel_rfl, fun j t ht => by
        rw [Tryd.params3] at ht
        have hm : t ∈ [4] := by simpa using Array.mem_of_getElem? ht
        have hall : ([4].all fun u => !Tryd.prog.wantsStandIn u) = true := by kernel_rfl
        exact (show Tryd.prog.wantsStandIn t = false by simpa using List.all_eq_true.1 hall t hm)⟩)
    (by kernel_rfl)
#print axioms proved
end Go.Proofs.Qxb6609465aDoor
