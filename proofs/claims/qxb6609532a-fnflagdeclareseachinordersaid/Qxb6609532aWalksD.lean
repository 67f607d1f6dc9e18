/-
  Flag and ZZflagNone: one flag more.
-/
import Derived.Test.Qxb6609532aWalksC
namespace Go.Proofs.Qxb6609532a
open Go.RowKit

theorem Try.info29 : (Try.prog.info? 29).map (fun i => (i.zero, i.size, i.bytes)) = some (some (.pointer none), 1, 8) := by kernel_rfl

/-- All rows of flags are as they were. -/
def Rows57 (w w' : World) : Prop := ∀ (q : Nat) (c : Array Value), w.heap[q]? = some (.cells c 57 (0, 0)) → w'.heap[q]? = w.heap[q]?

theorem FlagAt.of57 {w w' : World} {b i : Nat} {nm hp key : ByteArray} {sh : Int} (h : FlagAt w b i nm hp key sh) (e : Rows57 w w') : FlagAt w' b i nm hp key sh := by
  obtain ⟨c, hb, r⟩ := h
  exact ⟨c, (e b c hb).trans hb, r⟩
theorem Flags.of57 {base : Nat} {pts : List (Nat × Nat)} {nm hp : Nat → ByteArray} {sh : Nat → Int} {w w' : World} (h : Flags base pts nm hp sh w) (e : Rows57 w w') : Flags base pts nm hp sh w' :=
  ⟨h.1, fun j p hj => ⟨(h.2 j p hj).1, (h.2 j p hj).2.of57 e⟩⟩
theorem Spare.of57 {base : Nat} {pts : List (Nat × Nat)} {w w' : World} {vS : Value} (h : Spare base pts w vS) (e : Rows57 w w') : Spare base pts w' vS := by
  rcases h with h | ⟨Sb, s, cap, h1, h2, h3, h4, h5, h6⟩
  · exact .inl h
  · exact .inr ⟨Sb, s, cap, h1, h2, h3, h4, fun i hi => (h5 i hi).of57 e, h6⟩

/-- A row of pointers is no row of flags. -/
theorem own_ne {w : World} {base : Nat} {v : Value} {n : Nat} {xs : List Value} (h : w.ownsRow base 29 1 v n xs) {b : Nat} {c : Array Value} (hb : w.heap[b]? = some (.cells c 57 (0, 0))) : v.ownBlock ≠ some b := by
  intro e
  rcases h.2 with ⟨rfl, _⟩ | ⟨g, cap, cur, rfl, hg, hh, _⟩
  · simp [Value.ownBlock] at e
  · simp [Value.ownBlock] at e
    subst e
    rw [hh] at hb
    simp at hb
theorem own_ge {w : World} {base : Nat} {e : TypeId} {size : Nat} {v : Value} {n : Nat} {xs : List Value} (h : w.ownsRow base e size v n xs) : ∀ k, v.ownBlock = some k → base ≤ k := by
  intro k hk
  rcases h.2 with ⟨rfl, _⟩ | ⟨g, cap, cur, rfl, hg, _⟩
  · simp [Value.ownBlock] at hk
  · simp [Value.ownBlock] at hk
    omega

theorem rows57_alloc (w : World) (o : Obj) : Rows57 w (w.alloc o) := fun _ _ hq => Below.heap_alloc _ _ _ (Array.getElem?_eq_some_iff.1 hq).1
theorem rows57_cmd {w : World} {C : Nat} {prog : ByteArray} {vF vS : Value} (h : Cmd w C prog vF vS) (o : Nat) (v : Value) : Rows57 w (w.setCell ⟨C, o, none⟩ v) := fun q c hq => by
  refine Below.heap_setCell _ _ _ _ ?_
  rintro rfl
  unfold Cmd at h
  rw [h] at hq
  simp at hq
theorem rows57_grown {w w' : World} {base : Nat} {v : Value} {n : Nat} {xs : List Value} (h : w.ownsRow base 29 1 v n xs) (hg : w.grownBy w' v.ownBlock) : Rows57 w w' := fun q _ hq =>
  hg.block q (Array.getElem?_eq_some_iff.1 hq).1 (fun e => own_ne h hq e.symm)

/-- The world behind the four stores into the new flag. -/
def stored (w : World) (b i : Nat) (x y : ByteArray) : World :=
  (((w.setCell ⟨b, i * 17, none⟩ (.string x)).setCell ⟨b, i * 17 + 2, none⟩ .nilIface).setCell ⟨b, i * 17 + 1, none⟩ (.string y)).setCell ⟨b, i * 17 + 4, none⟩ (.string x)

theorem stored_flag {w : World} {b i : Nat} (x y : ByteArray) (h : FlagAt w b i ByteArray.empty ByteArray.empty ByteArray.empty 0) : FlagAt (stored w b i x y) b i x y x 0 :=
  (((h.setName x).setValue).setHelp y).setKey x
theorem stored_other {w : World} {b i b' i' : Nat} {nm hp key : ByteArray} {sh : Int} (x y : ByteArray) (h : FlagAt w b' i' nm hp key sh) (hne : (b', i') ≠ (b, i)) : FlagAt (stored w b i x y) b' i' nm hp key sh :=
  (((h.setCell_other (k := 0) (by omega) hne _).setCell_other (k := 2) (by omega) hne _).setCell_other (k := 1) (by omega) hne _).setCell_other (k := 4) (by omega) hne _
theorem stored_size (w : World) (b i : Nat) (x y : ByteArray) : (stored w b i x y).heap.size = w.heap.size := by simp [stored, World.setCell]

theorem stored_inv {C base : Nat} {prog : ByteArray} {pts : List (Nat × Nat)} {nm hp : Nat → ByteArray} {sh : Nat → Int} {vF vS : Value} {w : World} {b i : Nat} {x y : ByteArray}
    (h : Inv C base prog pts nm hp sh w vF vS) (hb : base ≤ b) (hnot : (b, i) ∉ pts) (hz : FlagAt w b i ByteArray.empty ByteArray.empty ByteArray.empty 0) (hsp : Spare base (pts ++ [(b, i)]) w vS)
    (hx : nm pts.length = x) (hy : hp pts.length = y) (hs : sh pts.length = 0) :
    Flags base (pts ++ [(b, i)]) nm hp sh (stored w b i x y) ∧ Cmd (stored w b i x y) C prog vF vS ∧ (stored w b i x y).ownsRow base 29 1 vF pts.length (pts.map adr) ∧ Spare base (pts ++ [(b, i)]) (stored w b i x y) vS ∧ Kept C base w (stored w b i x y) := by
  have hbC : C ≠ b := by have := h.below; omega
  obtain ⟨c, hc, _⟩ := hz
  have hz : FlagAt w b i ByteArray.empty ByteArray.empty ByteArray.empty 0 := ⟨c, hc, by assumption⟩
  have hno := own_ne h.own hc
  refine ⟨⟨?_, fun j p hj => ?_⟩, ?_, ?_, ?_, ?_⟩
  · rw [List.nodup_append]
    refine ⟨h.flags.1, by simp, fun a ha d hd => ?_⟩
    simp at hd
    rintro rfl
    exact hnot (hd ▸ ha)
  · by_cases hl : j < pts.length
    · rw [List.getElem?_append_left hl] at hj
      refine ⟨(h.flags.2 j p hj).1, stored_other x y (h.flags.2 j p hj).2 ?_⟩
      intro e
      exact hnot (e ▸ List.mem_of_getElem? hj)
    · have hj2 := (List.getElem?_eq_some_iff.1 hj).1
      simp at hj2
      obtain rfl : j = pts.length := by omega
      rw [List.getElem?_append_right (Nat.le_refl _)] at hj
      simp at hj
      subst hj
      rw [hx, hy, hs]
      exact ⟨hb, stored_flag x y hz⟩
  · exact (((h.cmd.setCell_far hbC _).setCell_far hbC _).setCell_far hbC _).setCell_far hbC _
  · exact ownsRow_setCell_other (ownsRow_setCell_other (ownsRow_setCell_other (ownsRow_setCell_other h.own hno _) hno _) hno _) hno _
  · rcases hsp with hsp | ⟨Sb, s, cap, h1, h2, h3, h4, h5, h6⟩
    · exact .inl hsp
    · refine .inr ⟨Sb, s, cap, h1, h2, h3, h4, fun i' hi' => stored_other x y (h5 i' hi') ?_, h6⟩
      intro e
      simp only [Prod.mk.injEq] at e
      have := h6 (b, i) (by simp) e.1.symm
      simp at this
      omega
  · exact ((((Kept.refl C base w).setCell (.inr hb) _).setCell (.inr hb) _).setCell (.inr hb) _).setCell (.inr hb) _

set_option maxHeartbeats 1000000 in
theorem flag_inv (C base : Nat) (prog : ByteArray) (pts : List (Nat × Nat)) (nm hp : Nat → ByteArray) (sh : Nat → Int) (vF vS : Value) (w : World) (h : Inv C base prog pts nm hp sh w vF vS) (x y : ByteArray)
    (hk : pts.length ≤ 65536) (hx : nm pts.length = x) (hy : hp pts.length = y) (hs : sh pts.length = 0) :
    Calls Try.prog 20 #[.pointer (some ⟨C, 0, none⟩), .string x, .nilIface, .string y] w fun e w' => ∃ b i vF' vS', e = .returned (.pointer (some ⟨b, i * 17, none⟩)) ∧
      Inv C base prog (pts ++ [(b, i)]) nm hp sh w' vF' vS' ∧ Kept C base w w' := by
  have HI : Hid (Inv C base prog pts nm hp sh w vF vS) := h
  have HX : Hid (nm pts.length = x ∧ hp pts.length = y ∧ sh pts.length = 0) := ⟨hx, hy, hs⟩
  clear h hx hy hs
  obtain ⟨i0, hi0, hz0, hz1, hz2⟩ := info_parts Try.info29
  go_enter Try.func20, Try.ntmps20
  go_wp2_with fail
  refine (newFlag_inv C base prog pts nm hp sh vF vS w HI.out).mono ?_
  rintro e w1 ⟨b, i, vS1, rfl, hI1, hb, hnot, hz, hsp, hkept⟩
  obtain ⟨c0, c1, c2, c3, c4, c5, c11⟩ := hz.cells
  have g0 := hz.frozen (i * 17)
  have g1 := hz.frozen (i * 17 + 1)
  have g2 := hz.frozen (i * 17 + 2)
  have g4 := hz.frozen (i * 17 + 4)
  obtain ⟨k2, k4, k8⟩ := hI1.cmd.cells
  have kf := hI1.cmd.frozen 4
  have hbC : b ≠ C := by have := hI1.below; omega
  have hCb : C ≠ b := fun e => hbC e.symm
  have hlt := hz.lt
  have hCl := hI1.cmd.lt
  have hroom := hI1.room
  have hbelow := hI1.below
  have HS : Hid (Flags base (pts ++ [(b, i)]) nm hp sh (stored w1 b i x y) ∧ Cmd (stored w1 b i x y) C prog vF vS1 ∧ (stored w1 b i x y).ownsRow base 29 1 vF pts.length (pts.map adr) ∧ Spare base (pts ++ [(b, i)]) (stored w1 b i x y) vS1 ∧ Kept C base w1 (stored w1 b i x y)) :=
    stored_inv hI1 hb hnot hz hsp HX.out.1 HX.out.2.1 HX.out.2.2
  have H4 : Hid (Kept C base w w1) := hkept
  clear hI1 hz hsp hkept hnot HX
  go_wp2_with (first | (at_builtin; refine wpList_append_lies _ rfl _ _ 28 rfl base 29 i0 (.pointer none) 1 8 Try.underlying28 hi0 hz0 hz1 hz2 rfl (by decide) vF pts.length (pts.map adr) rfl (HS.out.2.2.1.alloc _) ⟨w1.heap.size, 0, none⟩ 1 1 [.pointer (some ⟨b, i * 17, none⟩)] rfl rfl ?c1 ?c2 (by decide) ?c3 ?c4 ?c5 _ rfl ?_))
  case c1 =>
    intro j u hj
    match j, hj with
    | 0, hj =>
      simp at hj
      subst hj
      show World.cell? ((stored w1 b i x y).alloc _) ⟨w1.heap.size, 0 + 0, none⟩ = _
      rw [← stored_size w1 b i x y]
      simp
  case c2 => intro u hu; simp at hu; subst hu; rfl
  case c3 => unfold maxLen; omega
  case c4 => omega
  case c5 =>
    show base ≤ ((stored w1 b i x y).alloc _).heap.size
    have := stored_size w1 b i x y
    simp; omega
  intro g cap w3 hown' hgrow0 _ _
  have hgrow : ((stored w1 b i x y).alloc (.cells #[.pointer (some ⟨b, i * 17, none⟩)] 29)).grownBy w3 vF.ownBlock := hgrow0
  clear hgrow0
  have hsz := stored_size w1 b i x y
  obtain ⟨s1, s2, s3, s4, s5⟩ := HS.out
  have hown3 : ((stored w1 b i x y).alloc (.cells #[.pointer (some ⟨b, i * 17, none⟩)] 29)).ownsRow base 29 1 vF pts.length (pts.map adr) := s3.alloc _
  have e57 : Rows57 ((stored w1 b i x y).alloc (.cells #[.pointer (some ⟨b, i * 17, none⟩)] 29)) w3 := rows57_grown hown3 hgrow
  have f3 := (s1.alloc (.cells #[.pointer (some ⟨b, i * 17, none⟩)] 29)).of57 e57
  have p3 := (s4.of57 (rows57_alloc _ (.cells #[.pointer (some ⟨b, i * 17, none⟩)] 29))).of57 e57
  have m3 : Cmd w3 C prog vF vS1 := (s2.alloc (.cells #[.pointer (some ⟨b, i * 17, none⟩)] 29)).of_block (hgrow.block C (by simp; omega) (fun e => by have := own_ge hown3 C e.symm; omega))
  have kk : Kept C base w w3 := ((H4.out.trans s5).alloc (by omega) (.cells #[.pointer (some ⟨b, i * 17, none⟩)] 29)).grown hgrow (by simp; omega) (own_ge hown3)
  obtain ⟨k2, k4, k8⟩ := m3.cells
  have kf := m3.frozen 4
  have hsz3 : base ≤ w3.heap.size := by have := hgrow.size; simp at this; omega
  have hfin : Inv C base prog (pts ++ [(b, i)]) nm hp sh (w3.setCell ⟨C, 4, none⟩ (.slice (some ⟨g, 0, none⟩) (pts.length + 1) cap)) (.slice (some ⟨g, 0, none⟩) (pts.length + 1) cap) vS1 := by
    refine ⟨hbelow, by simpa [World.setCell] using hsz3, f3.of57 (rows57_cmd m3 _ _), m3.setFlags _, ?_, p3.of57 (rows57_cmd m3 _ _)⟩
    have := ownsRow_setCell_below hown' (a := ⟨C, 4, none⟩) hbelow (.slice (some ⟨g, 0, none⟩) (pts.length + 1) cap)
    simpa [adr] using this
  have HF : Hid (Inv C base prog (pts ++ [(b, i)]) nm hp sh (w3.setCell ⟨C, 4, none⟩ (.slice (some ⟨g, 0, none⟩) (pts.length + 1) cap)) (.slice (some ⟨g, 0, none⟩) (pts.length + 1) cap) vS1) := hfin
  have HK : Hid (Kept C base w (w3.setCell ⟨C, 4, none⟩ (.slice (some ⟨g, 0, none⟩) (pts.length + 1) cap))) := kk.setCell (.inl rfl) _
  clear hfin kk m3 p3 f3 e57 hown3 s1 s2 s3 s4 s5 hsz hgrow hown' HS
  go_wp2
  go_ret
  exact ⟨b, i, _, _, rfl, HF.out, HK.out⟩

theorem flagNone_inv (C base : Nat) (prog : ByteArray) (pts : List (Nat × Nat)) (nm hp : Nat → ByteArray) (sh : Nat → Int) (vF vS : Value) (w : World) (h : Inv C base prog pts nm hp sh w vF vS) (x y : ByteArray)
    (hk : pts.length ≤ 65536) (hx : nm pts.length = x) (hy : hp pts.length = y) (hs : sh pts.length = 0) :
    Calls Try.prog 8 #[.pointer (some ⟨C, 0, none⟩), .string x, .string y] w fun e w' => ∃ b i vF' vS', e = .returned (.pointer (some ⟨b, i * 17, none⟩)) ∧
      Inv C base prog (pts ++ [(b, i)]) nm hp sh w' vF' vS' ∧ Kept C base w w' := by
  have HI : Hid (Inv C base prog pts nm hp sh w vF vS) := h
  have HX : Hid (nm pts.length = x ∧ hp pts.length = y ∧ sh pts.length = 0) := ⟨hx, hy, hs⟩
  clear h hx hy hs
  go_enter Try.func8, Try.ntmps8
  go_wp2_with fail
  refine (flag_inv C base prog pts nm hp sh vF vS w HI.out x y hk HX.out.1 HX.out.2.1 HX.out.2.2).mono ?_
  rintro e w1 ⟨b, i, vF1, vS1, rfl, hI, hK⟩
  have H1 : Hid (Inv C base prog (pts ++ [(b, i)]) nm hp sh w1 vF1 vS1 ∧ Kept C base w w1) := ⟨hI, hK⟩
  clear hI hK
  go_wp2
  go_ret
  exact ⟨b, i, vF1, vS1, rfl, H1.out.1, H1.out.2⟩
end Go.Proofs.Qxb6609532a
