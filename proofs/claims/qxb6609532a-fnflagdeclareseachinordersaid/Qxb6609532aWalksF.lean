/-
  THE WALK over the law: FnFlagDeclaresEachInOrder returns true.
-/
import Derived.Test.Qxb6609532aWalksD
import Derived.Test.Qxb6609532aWalksE
import Derived.Deep.RegionHeld3
import Derived.Deep.QuietTactic
import Derived.BigQuiet
import Derived.Lib.Builder
namespace Go.Proofs.Qxb6609532a
open Go.RowKit

set_option maxRecDepth 100000 in
theorem law_bytes (prog : ByteArray) (xs ys : List ByteArray) (ao a2 : Option Addr) (n c m d : Nat) (w : World) (h : ArgS w xs ao n c) (h2 : ArgS w ys a2 m d) (hp : prog.size ≤ 9223372036854775807) (hn : n ≤ 9223372036854775807) (hm : m ≤ 9223372036854775807)
    (hbig : 1048576 < prog.size ∨ 65536 < n ∨ 65536 < m) :
    Calls Try.prog 3 #[.string prog, .slice ao n c, .slice a2 m d] w fun e w' => e = .returned (.bool true) ∧ Below w.heap.size w w' := by
  have HA : Hid (ArgS w xs ao n c ∧ ArgS w ys a2 m d) := ⟨h, h2⟩
  clear h h2
  go_enter Try.func3, Try.ntmps3
  go_wp2_with fail
  refine (bytes_any prog xs ys ao a2 n c m d w HA.out.1 HA.out.2 hp hn hm).mono ?_
  rintro e w' ⟨⟨r, rfl⟩, rfl⟩
  cases r
  · go_wp2
    go_ret
    exact ⟨rfl, Below.refl _ _⟩
  · by_cases p1 : 1048576 < (prog.size : Int)
    · go_wp2
      go_ret
      exact ⟨rfl, Below.refl _ _⟩
    by_cases p2 : 65536 < (n : Int)
    · go_wp2
      go_ret
      exact ⟨rfl, Below.refl _ _⟩
    have p3 : 65536 < (m : Int) := by omega
    clear hbig
    go_wp2
    go_ret
    exact ⟨rfl, Below.refl _ _⟩

/-- A slice of strings that lies below block C. -/
def HeldC (C : Nat) (w : World) (xs : List ByteArray) (ao : Option Addr) (n : Nat) : Prop :=
  n = 0 ∨ ∃ B, ao = some ⟨B, 0, none⟩ ∧ B < C ∧ ∀ j, j < n → w.cell? ⟨B, j, none⟩ = some (.string (xs.getD j ByteArray.empty))
theorem HeldC.of {w w' : World} {xs : List ByteArray} {ao : Option Addr} {n : Nat} (h : HeldS w xs ao n) (hb : Below w.heap.size w w') : HeldC w.heap.size w' xs ao n := by
  rcases h with h | ⟨B, h1, h2, h3⟩
  · exact .inl h
  · exact .inr ⟨B, h1, h2, fun j hj => (hb.cell (p := ⟨B, _, none⟩) h2).trans (h3 j hj)⟩
theorem HeldC.below {C : Nat} {w w' : World} {xs : List ByteArray} {ao : Option Addr} {n : Nat} (h : HeldC C w xs ao n) (hb : Below C w w') : HeldC C w' xs ao n := by
  rcases h with h | ⟨B, h1, h2, h3⟩
  · exact .inl h
  · exact .inr ⟨B, h1, h2, fun j hj => (hb.cell (p := ⟨B, _, none⟩) h2).trans (h3 j hj)⟩
theorem HeldC.held {C : Nat} {w : World} {xs : List ByteArray} {ao : Option Addr} {n : Nat} (h : HeldC C w xs ao n) (hC : C ≤ w.heap.size) : HeldS w xs ao n := by
  rcases h with h | ⟨B, h1, h2, h3⟩
  · exact .inl h
  · exact .inr ⟨B, h1, by omega, h3⟩

/-- What fs holds. -/
def rowF (pts : List (Nat × Nat)) (j : Nat) : Value := match pts[j]? with | some p => adr p | none => .pointer none

/-- The state in the loops: the program's flags, fs, and all that lies below. -/
structure St (C F n m : Nat) (prog : ByteArray) (xs ys : List ByteArray) (W0 : World) (pts : List (Nat × Nat)) (sh : Nat → Int) (vF vS : Value) (w : World) : Prop where
  inv : Inv C (F + 1) prog pts (fun j => xs.getD j ByteArray.empty) (hpOf ys m) sh w vF vS
  row : w.rowIs F 29 n (rowF pts)
  below : Below C W0 w

theorem Inv.drew {C base : Nat} {prog : ByteArray} {pts : List (Nat × Nat)} {nm hp : Nat → ByteArray} {sh : Nat → Int} {w : World} {vF vS : Value} (h : Inv C base prog pts nm hp sh w vF vS) : Inv C base prog pts nm hp sh w.drew vF vS :=
  ⟨h.below, h.room, h.flags, h.cmd, h.own, h.spare⟩
theorem Inv.drewN {C base : Nat} {prog : ByteArray} {pts : List (Nat × Nat)} {nm hp : Nat → ByteArray} {sh : Nat → Int} {w : World} {vF vS : Value} (h : Inv C base prog pts nm hp sh w vF vS) (q : Nat) : Inv C base prog pts nm hp sh (w.drewN q) vF vS :=
  ⟨h.below, h.room, h.flags, h.cmd, h.own, h.spare⟩
theorem St.drewN {C F n m : Nat} {prog : ByteArray} {xs ys : List ByteArray} {W0 : World} {pts : List (Nat × Nat)} {sh : Nat → Int} {vF vS : Value} {w : World} (h : St C F n m prog xs ys W0 pts sh vF vS w) (q : Nat) : St C F n m prog xs ys W0 pts sh vF vS (w.drewN q) :=
  ⟨h.inv.drewN q, h.row, h.below.trans ⟨rfl, rfl, rfl, Nat.le_refl _, fun _ _ => rfl⟩⟩

/-- What owns the pointers is a slice of so many. -/
theorem own_form {w : World} {base : Nat} {v : Value} {pts : List (Nat × Nat)} (h : w.ownsRow base 29 1 v pts.length (pts.map adr)) : ∃ af cf, v = .slice af pts.length cf := by
  rcases h.2 with ⟨h1, h2⟩ | ⟨g, cap, cur, h1, _⟩
  · exact ⟨none, 0, by rw [h1, h2]⟩
  · exact ⟨_, _, h1⟩
theorem own_cell {w : World} {base n cf : Nat} {af : Option Addr} {pts : List (Nat × Nat)} {j : Nat} {p : Nat × Nat} (h : w.ownsRow base 29 1 (.slice af n cf) pts.length (pts.map adr)) (hl : pts.length = n) (hj : pts[j]? = some p) :
    ∃ g, af = some ⟨g, 0, none⟩ ∧ w.cell? ⟨g, j, none⟩ = some (.pointer (some ⟨p.1, p.2 * 17, none⟩)) := by
  have hlt := (List.getElem?_eq_some_iff.1 hj).1
  obtain ⟨g, cap, e, _, _⟩ := h.form (by omega)
  simp only [Value.slice.injEq] at e
  obtain ⟨rfl, rfl, rfl⟩ := e
  refine ⟨g, rfl, ?_⟩
  rw [h.cellAt j (by omega), List.getElem?_map, hj]
  rfl

/-- The shorts behind k rounds. -/
def shK (k j : Nat) : Int := if j < k then (j : Int) + 1 else 0
theorem shK_zero : shK 0 = fun _ => 0 := by funext j; simp [shK]
theorem shK_next (k : Nat) : (fun j => if j = k then ((k : Int) + 1) else shK k j) = shK (k + 1) := by
  funext j
  unfold shK
  by_cases h : j = k
  · subst h; simp
  · by_cases h2 : j < k
    · rw [if_neg h, if_pos h2, if_pos (by omega)]
    · rw [if_neg h, if_neg h2, if_neg (by omega)]

/-- A flag's short is written. -/
theorem St.short {C F n m : Nat} {prog : ByteArray} {xs ys : List ByteArray} {W0 : World} {pts : List (Nat × Nat)} {sh : Nat → Int} {vF vS : Value} {w : World} (h : St C F n m prog xs ys W0 pts sh vF vS w) {k b i : Nat} (hFC : C < F) (hp : pts[k]? = some (b, i)) (x : Int) :
    St C F n m prog xs ys W0 pts (fun j => if j = k then x else sh j) vF vS (w.setCell ⟨b, i * 17 + 11, none⟩ (.int .i32 x)) := by
  obtain ⟨hb, hf⟩ := h.inv.flags.2 k (b, i) hp
  have hb : F + 1 ≤ b := hb
  have hf : FlagAt w b i _ _ _ _ := hf
  obtain ⟨c, hc, _⟩ := hf
  have hf := (h.inv.flags.2 k (b, i) hp).2
  have hno := own_ne h.inv.own hc
  refine ⟨⟨h.inv.below, ?_, ⟨h.inv.flags.1, fun j p hj => ⟨(h.inv.flags.2 j p hj).1, ?_⟩⟩, h.inv.cmd.setCell_far (by show C ≠ b; omega) _, ownsRow_setCell_other h.inv.own hno _, ?_⟩, h.row.setOther (by show F ≠ b; omega) _, h.below.setCell (by show C ≤ b; omega) _⟩
  · have := h.inv.room; simpa [World.setCell] using this
  · show FlagAt _ _ _ _ _ _ (if j = k then x else sh j)
    by_cases e : j = k
    · subst e
      rw [hp] at hj
      cases hj
      rw [if_pos rfl]
      exact hf.setShort x
    · rw [if_neg e]
      refine (h.inv.flags.2 j p hj).2.setCell_other (by omega) ?_ _
      intro e2
      have hl1 := (List.getElem?_eq_some_iff.1 hj).1
      have := (List.getElem?_inj hl1 h.inv.flags.1 (j := k)).1 (by rw [hj, hp, ← e2])
      exact e this
  · rcases h.inv.spare with hsp | ⟨Sb, s, cap, h1, h2, h3, h4, h5, h6⟩
    · exact .inl hsp
    · refine .inr ⟨Sb, s, cap, h1, h2, h3, h4, fun i' hi' => (h5 i' hi').setCell_other (by omega) ?_ _, h6⟩
      intro e
      simp only [Prod.mk.injEq] at e
      have := h6 (b, i) (List.mem_of_getElem? hp) e.1.symm
      simp at this
      omega

theorem neq_same (a : Addr) (w : World) : (binOp .neq 29 (.pointer (some a)) (.pointer (some a))).run Try.prog w = .ok (.bool false) w := by
  obtain ⟨j, hj, _⟩ := Option.map_eq_some_iff.1 Try.info57
  exact Lib.run_neq_ptr_same w a Try.underlying29 hj

theorem FlagAt.drewN {w : World} {b i : Nat} {nm hp key : ByteArray} {sh : Int} (h : FlagAt w b i nm hp key sh) (q : Nat) : FlagAt (w.drewN q) b i nm hp key sh := h
theorem at_eq (xs : List ByteArray) (ao : Option Addr) (n c j : Nat) (y : ByteArray) (w : World) (h : HeldS w xs ao n) (hy : y = hpOf xs n j) :
    Calls Try.prog 9 #[.slice ao n c, .int .i64 j] w fun e w' => e = .returned (.string y) ∧ w' = w := by
  subst hy
  exact at_any xs ao n c j w h
theorem HeldS.drewN {w : World} {xs : List ByteArray} {ao : Option Addr} {n : Nat} (h : HeldS w xs ao n) (q : Nat) : HeldS (w.drewN q) xs ao n := h

theorem Kept.undrew {C base : Nat} {w w' : World} (h : Kept C base w.drew w') : Kept C base w w' := ⟨h.os, h.tape, h.output, h.size, h.block⟩
theorem HeldS.drew {w : World} {xs : List ByteArray} {ao : Option Addr} {n : Nat} (h : HeldS w xs ao n) : HeldS w.drew xs ao n := h
theorem rowF_next (pts : List (Nat × Nat)) (p : Nat × Nat) (j : Nat) : (if j = pts.length then adr p else rowF pts j) = rowF (pts ++ [p]) j := by
  unfold rowF
  by_cases h : j = pts.length
  · subst h; simp
  · rw [if_neg h]
    by_cases hl : j < pts.length
    · rw [List.getElem?_append_left hl]
    · rw [List.getElem?_eq_none (by omega), List.getElem?_eq_none (by simp; omega)]

/-- One flag more: fs's next cell is written. -/
theorem St.next {C F n m : Nat} {prog : ByteArray} {xs ys : List ByteArray} {W0 : World} {pts : List (Nat × Nat)} {sh : Nat → Int} {vF vS vF' vS' : Value} {w w' : World} {b i : Nat} (hFC : C < F)
    (h : St C F n m prog xs ys W0 pts sh vF vS w) (hI : Inv C (F + 1) prog (pts ++ [(b, i)]) (fun j => xs.getD j ByteArray.empty) (hpOf ys m) sh w' vF' vS') (hK : Kept C (F + 1) w w') :
    St C F n m prog xs ys W0 (pts ++ [(b, i)]) sh vF' vS' (w'.setCell ⟨F, pts.length, none⟩ (.pointer (some ⟨b, i * 17, none⟩))) := by
  have hrow : w'.rowIs F 29 n (rowF pts) := h.row.of_block (hK.block F (by omega) (by omega))
  obtain ⟨cF, hcF, _⟩ := hrow
  have hrow : w'.rowIs F 29 n (rowF pts) := ⟨cF, hcF, by assumption⟩
  have e57 : Rows57 w' (w'.setCell ⟨F, pts.length, none⟩ (.pointer (some ⟨b, i * 17, none⟩))) := fun q c hq => by
    refine Below.heap_setCell _ _ _ _ ?_
    rintro rfl
    rw [hcF] at hq
    simp at hq
  refine ⟨⟨hI.below, ?_, hI.flags.of57 e57, hI.cmd.setCell_far (by show C ≠ F; omega) _, ownsRow_setCell_below hI.own (by show F < F + 1; omega) _, hI.spare.of57 e57⟩, ?_, ?_⟩
  · have := hI.room; simpa [World.setCell] using this
  · exact (hrow.set pts.length _).congr (fun j _ => rowF_next pts (b, i) j)
  · refine (h.below.trans ⟨hK.os, hK.tape, hK.output, hK.size, fun q hq => hK.block q (by omega) (by omega)⟩).setCell (by show C ≤ F; omega) _

set_option maxRecDepth 100000 in
set_option maxHeartbeats 4000000 in
theorem law_run (prog : ByteArray) (xs ys : List ByteArray) (ao a2 : Option Addr) (n c m d : Nat) (w : World) (h : ArgS w xs ao n c) (h2 : ArgS w ys a2 m d) (hp : prog.size ≤ 1048576) (hn : n ≤ 65536) (hm : m ≤ 65536) :
    Calls Try.prog 3 #[.string prog, .slice ao n c, .slice a2 m d] w fun e w' => e = .returned (.bool true) ∧ Below w.heap.size w w' := by
  have HA : Hid (ArgS w xs ao n c ∧ ArgS w ys a2 m d) := ⟨h, h2⟩
  clear h h2
  have hmk := run_make_row' (P := Try.prog) 28 29 (.pointer none) 8 Try.underlying28 Try.info29 rfl .i64 .i64 n (by omega) (by omega)
  go_enter Try.func3, Try.ntmps3
  go_wp2_with fail
  refine (bytes_any prog xs ys ao a2 n c m d w HA.out.1 HA.out.2 (by omega) (by omega) (by omega)).mono ?_
  rintro e w' ⟨⟨r, rfl⟩, rfl⟩
  cases r
  · go_wp2
    go_ret
    exact ⟨rfl, Below.refl _ _⟩
  go_wp2_with fail
  refine (strBytes_any xs ao n c _ HA.out.1 hn).mono ?_
  rintro e w' ⟨z1, rfl, hz10, hz11, rfl⟩
  go_wp2_with fail
  refine (strBytes_any ys a2 m d _ HA.out.2 hm).mono ?_
  rintro e w' ⟨z2, rfl, hz20, hz21, rfl⟩
  by_cases hbig : 1048576 < (prog.size : Int) + z1 + z2
  · go_wp2
    go_ret
    exact ⟨rfl, Below.refl _ _⟩
  go_wp2_with fail
  refine (clone_any HA.out.1 hn).mono ?_
  rintro e w1 ⟨an, cn, rfl, hK1, hB1⟩
  have K1 : Hid (HeldS w1 xs an n) := hK1
  have B1 : Hid (Below w'.heap.size w' w1) := hB1
  clear hK1 hB1
  go_wp2_with fail
  refine (clone_any (HA.out.2.below B1.out) hm).mono ?_
  rintro e w2 ⟨ah, ch, rfl, hK2, hB2⟩
  have K2 : Hid (HeldS w2 ys ah m) := hK2
  have B2 : Hid (Below w1.heap.size w1 w2) := hB2
  clear hK2 hB2
  go_wp2_with fail
  refine (newProgram_any prog w2).mono ?_
  rintro e w3 ⟨rfl, hC3, hB3, hs3⟩
  have C3 : Hid (Cmd w3 w2.heap.size prog (.slice none 0 0) (.slice none 0 0) ∧ Below w2.heap.size w2 w3 ∧ w3.heap.size = w2.heap.size + 1) := ⟨hC3, hB3, hs3⟩
  clear hC3 hB3 hs3
  go_wp2
  have hC : w'.heap.size ≤ w2.heap.size := Nat.le_trans B1.out.size B2.out.size
  have HF : Hid (w3.heap.size = w2.heap.size + 1) := C3.out.2.2
  have hFC : w2.heap.size < w3.heap.size := by have := HF.out; omega
  have hW : Below w2.heap.size w2 (w3.alloc (.cells (madeCells #[.pointer none] n) 29)) := C3.out.2.1.alloc (by omega) _
  have HN : Hid (HeldC w2.heap.size (w3.alloc (.cells (madeCells #[.pointer none] n) 29)) xs an n) := HeldC.of (K1.out.below B2.out) hW
  have HH : Hid (HeldC w2.heap.size (w3.alloc (.cells (madeCells #[.pointer none] n) 29)) ys ah m) := HeldC.of K2.out hW
  have BW : Hid (Below w'.heap.size w' (w3.alloc (.cells (madeCells #[.pointer none] n) 29))) := (B1.out.trans (B2.out.mono B1.out.size)).trans (hW.mono hC)
  have ST : Hid (St w2.heap.size w3.heap.size n m prog xs ys (w3.alloc (.cells (madeCells #[.pointer none] n) 29)) [] (fun _ => 0) (.slice none 0 0) (.slice none 0 0) (w3.alloc (.cells (madeCells #[.pointer none] n) 29))) :=
    ⟨⟨by omega, by simp, ⟨List.nodup_nil, fun j p hj => by simp at hj⟩, C3.out.1.alloc _, World.ownsRow_nil _ _ _ _, .inl ⟨_, _, rfl, by omega⟩⟩, World.rowIs_made _ _ _ _, Below.refl _ _⟩
  clear hW K1 K2 B1 B2 C3 hmk HA HF
  generalize (w3.alloc (.cells (madeCells #[.pointer none] n) 29)) = W0 at HN HH BW ST ⊢
  generalize w3.heap.size = F at HN HH BW ST hFC ⊢
  generalize w2.heap.size = C at HN HH BW ST hFC hC ⊢
  generalize decide (1048576 < (prog.size : Int)) = t1
  generalize decide (65536 < (n : Int)) = t2
  generalize decide (65536 < (m : Int)) = t3
  generalize decide (1048576 < (prog.size : Int) + z1 + z2) = t4
  clear hz10 hz11 hz20 hz21 hbig
  go_loopw [10] (fun i wr => ∃ (pts : List (Nat × Nat)) (vF vS : Value), pts.length ≤ n ∧ i = .int .i64 (pts.length : Nat) ∧ St C F n m prog xs ys W0 pts (fun _ => 0) vF vS wr) (fun i _ => n - (intOf i).toNat)
  case atStart => exact ⟨[], _, _, Nat.zero_le _, rfl, ST.out⟩
  case round =>
    obtain ⟨pts, vF, vS, hk, rfl, hst⟩ := hrel
    by_cases hlt : pts.length < n
    · have hnames := HN.out.below hst.below
      rcases hnames with h0 | ⟨B, rfl, hB, hcs⟩
      · omega
      obtain ⟨s, hs⟩ : ∃ s, s = xs.getD pts.length ByteArray.empty := ⟨_, rfl⟩
      have hcx : wr.cell? ⟨B, pts.length, none⟩ = some (.string s) := by rw [hs]; exact hcs _ hlt
      have hCr : C ≤ wr.heap.size := by have := hst.inv.cmd.lt; omega
      have hhelp : Hid (HeldS wr ys ah m) := (HH.out.below hst.below).held hCr
      have hBF : B < F + 1 := by omega
      have hBC : B ≠ C := by omega
      have hi : ((pts.length : Nat) : Int) < (n : Int) := by omega
      have SR : Hid (St C F n m prog xs ys W0 pts (fun _ => 0) vF vS wr) := hst
      have HS : Hid (s = xs.getD pts.length ByteArray.empty) := hs
      have hk6 : pts.length ≤ 65536 := by omega
      clear hst hcs hs hk
      go_wp2_with fail
      go_region_held3 (fun x => x.cell? ⟨B, pts.length, none⟩ = some (.string s))
        (first | assumption | (go_simp; done))
        (first
          | (go_at_call 9; refine (at_any ys ah m ch pts.length _ hhelp.out.drew).mono ?_; rintro e w4 ⟨rfl, rfl⟩)
          | (go_at_call 8; refine (flagNone_inv C (F + 1) prog pts (fun j => xs.getD j ByteArray.empty) (hpOf ys m) (fun _ => 0) vF vS _ SR.out.inv.drew s (hpOf ys m pts.length) hk6 HS.out.symm rfl rfl).mono ?_; rintro e w5 ⟨b, i, vF1, vS1, rfl, hI5, hK5⟩; have hc5 : w5.cell? ⟨B, pts.length, none⟩ = some (.string s) := (World.cell?_of_block (w := wr) (hK5.block B hBF hBC)).trans hcx))
      have hK := hK5.undrew
      have hrow5 : w5.rowIs F 29 n (rowF pts) := SR.out.row.of_block (hK.block F (by omega) (by omega))
      have hcF : w5.cell? ⟨F, pts.length, none⟩ = some (.pointer none) := by rw [hrow5.cell hlt]; simp [rowF]
      have hfF := hrow5.frozen pts.length
      have NX : Hid (St C F n m prog xs ys W0 (pts ++ [(b, i)]) (fun _ => 0) vF1 vS1 (w5.setCell ⟨F, pts.length, none⟩ (.pointer (some ⟨b, i * 17, none⟩)))) := SR.out.next hFC hI5 hK
      clear hK hK5 hI5 hrow5 hc5 hcx hhelp SR HS
      go_wp2
      go_roundw
      case rel => exact ⟨pts ++ [(b, i)], vF1, vS1, by simp; omega, by simp, NX.out⟩
      case measure => simp [intOf]; omega
    · have hL : pts.length = n := by omega
      obtain ⟨af, cf, hv⟩ := own_form hst.inv.own
      rw [hL] at hv
      subst hv
      have SR : Hid (St C F n m prog xs ys W0 pts (fun _ => 0) (.slice af n cf) vS wr) := hst
      have HL : Hid (pts.length = n) := hL
      have hi0 : ¬ ((pts.length : Nat) : Int) < (n : Int) := by omega
      clear hst hL hlt hk
      go_wp2_with fail
      refine (count_any C n cf af prog vS _ SR.out.inv.cmd).mono ?_
      rintro e w4 ⟨rfl, rfl⟩
      go_wp2
      go_loopw [12] (fun i w5 => ∃ k : Nat, k ≤ n ∧ i = .int .i64 k ∧ St C F n m prog xs ys W0 pts (fun _ => 0) (.slice af n cf) vS w5) (fun i _ => n - (intOf i).toNat)
      case atStart => exact ⟨0, Nat.zero_le _, rfl, SR.out⟩
      case round =>
        obtain ⟨k, hkn, rfl, hst⟩ := hrel
        clear SR
        by_cases hlt : k < n
        · obtain ⟨⟨b, i⟩, hp⟩ : ∃ p, pts[k]? = some p := ⟨_, List.getElem?_eq_getElem (by rw [HL.out]; exact hlt)⟩
          have hfl := (hst.inv.flags.2 k (b, i) hp).2
          have hcF : wr.cell? ⟨F, k, none⟩ = some (.pointer (some ⟨b, i * 17, none⟩)) := by rw [hst.row.cell hlt]; simp [rowF, hp, adr]
          obtain ⟨g, rfl, hcg⟩ := own_cell hst.inv.own HL.out hp
          rcases HN.out.below hst.below with h0 | ⟨B, rfl, hB, hcs⟩
          · omega
          obtain ⟨s, hs⟩ : ∃ s, s = xs.getD k ByteArray.empty := ⟨_, rfl⟩
          obtain ⟨y, hy⟩ : ∃ y, y = hpOf ys m k := ⟨_, rfl⟩
          have hcx : wr.cell? ⟨B, k, none⟩ = some (.string s) := by rw [hs]; exact hcs _ hlt
          have hCr : C ≤ wr.heap.size := by have := hst.inv.cmd.lt; omega
          have hhelp : Hid (HeldS wr ys ah m) := (HH.out.below hst.below).held hCr
          have FL : Hid (FlagAt wr b i s y s 0) := by rw [hs, hy]; exact hfl
          have HY : Hid (y = hpOf ys m k) := hy
          have SR : Hid (St C F n m prog xs ys W0 pts (fun _ => 0) (.slice (some ⟨g, 0, none⟩) n cf) vS wr) := hst
          have hi : (k : Int) < (n : Int) := by omega
          clear hst hcs hs hy hfl hp
          go_wp2_with fail
          refine (flagAt_any C n cf g k (.pointer (some ⟨b, i * 17, none⟩)) prog vS _ SR.out.inv.cmd hlt hcg).mono ?_
          rintro e w6 ⟨rfl, rfl⟩
          have hpp := neq_same ⟨b, i * 17, none⟩
          go_wp2_with fail
          go_quiet ((first
            | (go_at_call 12; exact Calls.quiet_of_same (name_any b i s y s 0 _ (FL.out.drewN _)))
            | (go_at_call 13; exact Calls.quiet_of_same (key_any b i s y s 0 _ (FL.out.drewN _)))
            | (go_at_call 14; exact Calls.quiet_of_same (help_any b i s y s 0 _ (FL.out.drewN _)))
            | (go_at_call 9; exact Calls.quiet_of_same (at_eq ys ah m ch k y _ (hhelp.out.drewN _) HY.out))))
          go_wp2_with (first
            | (go_at_call 15; refine (valueNil_any b i s y s 0 _ (FL.out.drewN _)).mono ?_; rintro e w7 ⟨rfl, rfl⟩)
            | (go_at_call 16; refine (short_any b i s y s 0 _ (FL.out.drewN _)).mono ?_; rintro e w7 ⟨rfl, rfl⟩)
            | (go_at_call 17; refine (env_any b i s y s 0 _ (FL.out.drewN _)).mono ?_; rintro e w7 ⟨rfl, rfl⟩)
            | (go_at_call 18; refine (placeholder_any b i s y s 0 _ (FL.out.drewN _)).mono ?_; rintro e w7 ⟨rfl, rfl⟩))
          go_roundw
          case rel => exact ⟨k + 1, by omega, by go_num, SR.out.drewN _⟩
          case measure => simp [intOf]; omega
        · have SR : Hid (St C F n m prog xs ys W0 pts (shK 0) (.slice af n cf) vS wr) := by rw [shK_zero]; exact hst
          have hi : ¬ (k : Int) < (n : Int) := by omega
          clear hst HN HH ST
          go_wp2
          go_loopw [14] (fun i w5 => ∃ k : Nat, k ≤ n ∧ i = .int .i64 k ∧ St C F n m prog xs ys W0 pts (shK k) (.slice af n cf) vS w5) (fun i _ => n - (intOf i).toNat)
          case atStart => exact ⟨0, Nat.zero_le _, rfl, SR.out⟩
          case round =>
            obtain ⟨k3, hk3, rfl, hst⟩ := hrel
            clear SR
            by_cases hlt : k3 < n
            · obtain ⟨⟨b, i⟩, hp⟩ : ∃ p, pts[k3]? = some p := ⟨_, List.getElem?_eq_getElem (by rw [HL.out]; exact hlt)⟩
              have hfl := (hst.inv.flags.2 k3 (b, i) hp).2
              have hcF : wr.cell? ⟨F, k3, none⟩ = some (.pointer (some ⟨b, i * 17, none⟩)) := by rw [hst.row.cell hlt]; simp [rowF, hp, adr]
              have FL : Hid (FlagAt wr b i (xs.getD k3 ByteArray.empty) (hpOf ys m k3) (xs.getD k3 ByteArray.empty) (shK k3 k3)) := hfl
              have NX : Hid (St C F n m prog xs ys W0 pts (shK (k3 + 1)) (.slice af n cf) vS (wr.setCell ⟨b, i * 17 + 11, none⟩ (.int .i32 ((k3 : Int) + 1)))) := by rw [← shK_next]; exact hst.short hFC hp _
              have hi3 : (k3 : Int) < (n : Int) := by omega
              clear hst hfl hp
              go_wp2_with fail
              refine (setShort_any b i _ _ _ _ _ _ FL.out).mono ?_
              rintro e w6 ⟨rfl, rfl⟩
              go_wp2
              go_roundw
              case rel => exact ⟨k3 + 1, by omega, by go_num, NX.out⟩
              case measure => simp [intOf]; omega
            · obtain rfl : k3 = n := by omega
              have SR : Hid (St C F k3 m prog xs ys W0 pts (shK k3) (.slice af k3 cf) vS wr) := hst
              have hi3 : ¬ (k3 : Int) < (k3 : Int) := by omega
              clear hst
              go_wp2
              go_loopw [15] (fun i w5 => ∃ k : Nat, k ≤ k3 ∧ i = .int .i64 k ∧ St C F k3 m prog xs ys W0 pts (shK k3) (.slice af k3 cf) vS w5) (fun i _ => k3 - (intOf i).toNat)
              case atStart => exact ⟨0, Nat.zero_le _, rfl, SR.out⟩
              case round =>
                obtain ⟨k4, hk4, rfl, hst⟩ := hrel
                clear SR
                by_cases hlt : k4 < k3
                · obtain ⟨⟨b, i⟩, hp⟩ : ∃ p, pts[k4]? = some p := ⟨_, List.getElem?_eq_getElem (by rw [HL.out]; exact hlt)⟩
                  have hfl := (hst.inv.flags.2 k4 (b, i) hp).2
                  have hcF : wr.cell? ⟨F, k4, none⟩ = some (.pointer (some ⟨b, i * 17, none⟩)) := by rw [hst.row.cell hlt]; simp [rowF, hp, adr]
                  have FL : Hid (FlagAt wr b i (xs.getD k4 ByteArray.empty) (hpOf ys m k4) (xs.getD k4 ByteArray.empty) ((k4 : Int) + 1)) := by
                    have e : shK k3 k4 = (k4 : Int) + 1 := by simp [shK, hlt]
                    rw [← e]; exact hfl
                  have SR : Hid (St C F k3 m prog xs ys W0 pts (shK k3) (.slice af k3 cf) vS wr) := hst
                  have hi4 : (k4 : Int) < (k3 : Int) := by omega
                  clear hst hfl hp
                  go_wp2_with fail
                  refine (short_any b i _ _ _ _ _ FL.out).mono ?_
                  rintro e w6 ⟨rfl, rfl⟩
                  go_wp2
                  go_roundw
                  case rel => exact ⟨k4 + 1, by omega, by go_num, SR.out⟩
                  case measure => simp [intOf]; omega
                · have SB : Hid (Below C W0 wr) := hst.below
                  have hi4 : ¬ (k4 : Int) < (k3 : Int) := by omega
                  clear hst
                  go_wp2
                  go_ret
                  exact ⟨rfl, BW.out.trans (SB.out.mono hC)⟩
end Go.Proofs.Qxb6609532a
