/-
  THE WALKS over the closure, route.names and route.ZZnames.
-/
import Derived.Test.Qxb6609465aDoorShelf
import Derived.WalkKit
import Derived.WalkSpells
import Derived.WalkLawsBesides
import Derived.Outline
namespace Go.Proofs.Qxb6609465aDoor
open Go.RowKit

/-- The seven names, in the table's order. -/
def nms : List ByteArray := [⟨#[108, 111, 119, 45, 108, 97, 116, 101, 110, 99, 121]⟩, ⟨#[108, 111, 119, 45, 106, 105, 116, 116, 101, 114]⟩, ⟨#[108, 111, 119, 45, 108, 111, 115, 115]⟩,
  ⟨#[108, 111, 119, 45, 117, 116, 105, 108, 105, 122, 97, 116, 105, 111, 110]⟩, ⟨#[102, 101, 119, 101, 115, 116, 45, 104, 111, 112, 115]⟩, ⟨#[104, 105, 103, 104, 45, 98, 97, 110, 100, 119, 105, 100, 116, 104]⟩,
  ⟨#[108, 111, 119, 45, 98, 97, 110, 100, 119, 105, 100, 116, 104]⟩]

theorem Tryd.info9 : (Tryd.prog.info? 9).map (fun i => (i.zero, i.size, i.bytes)) = some (some (.string ByteArray.empty), 1, 16) := by kernel_rfl

theorem keep_any (s m : ByteArray) (q : Int) (bk : Nat) (kp : Bool) (w : World) (hbk : bk < w.heap.size) (hk : w.cell? ⟨bk, 0, none⟩ = some (.bool kp)) :
    Calls Tryd.prog 9 #[.agg #[.string s, .int .u8 q, .string m], .pointer (some ⟨bk, 0, none⟩)] w fun e w' => e = .returned (.bool kp) ∧ w' = w.alloc (.cells #[.string s, .int .u8 q, .string m] 32) := by
  go_enter Tryd.func9, Tryd.ntmps9
  go_wp2
  go_ret
  exact ⟨rfl, rfl⟩

/-- What the table holds. -/
def Table (w : World) (b off cap : Nat) : Prop :=
  w.cell? ⟨0, 0, none⟩ = some (.slice (some ⟨b, off, none⟩) 7 cap) ∧ b < w.heap.size ∧ ∀ k, k < 7 → ∃ q m, w.cell? ⟨b, off + k * 3, none⟩ = some (.string (nms.getD k ByteArray.empty)) ∧ w.cell? ⟨b, off + k * 3 + 1, none⟩ = some (.int .u8 q) ∧ w.cell? ⟨b, off + k * 3 + 2, none⟩ = some (.string m)

theorem names_none (b off cap bk : Nat) (w : World) (hbk : bk < w.heap.size) (hk : w.cell? ⟨bk, 0, none⟩ = some (.bool false)) (ht : Table w b off cap) :
    Calls Tryd.prog 8 #[.func (.func 9) #[] #[.pointer (some ⟨bk, 0, none⟩)]] w fun e w' => e = .returned (.string ⟨#[]⟩) ∧ Below w.heap.size w w' := by
  obtain ⟨hg, hb, hc⟩ := ht
  go_enter Tryd.func8, Tryd.ntmps8
  go_wp2_with fail
  go_loopw [3, 8] (fun v i wr => ∃ k : Nat, k ≤ 7 ∧ i = .int .i64 k ∧ Below w.heap.size w wr ∧ v = .slice none 0 0) (fun _ i _ => 7 - (intOf i).toNat)
  case atStart => exact ⟨0, Nat.zero_le _, rfl, Below.refl _ _, rfl⟩
  case round =>
    obtain ⟨k, hk7, rfl, hbel, rfl⟩ := hrel
    by_cases hlt : k < 7
    · obtain ⟨q, m, g0, g1, g2⟩ := hc k hlt
      obtain ⟨s, hs⟩ : ∃ s, s = nms.getD k ByteArray.empty := ⟨_, rfl⟩
      rw [← hs] at g0
      have c0 : wr.cell? ⟨b, off + k * 3, none⟩ = some (.string s) := (hbel.cell (p := ⟨b, _, none⟩) hb).trans g0
      have c1 : wr.cell? ⟨b, off + k * 3 + 1, none⟩ = some (.int .u8 q) := (hbel.cell (p := ⟨b, _, none⟩) hb).trans g1
      have c2 : wr.cell? ⟨b, off + k * 3 + 2, none⟩ = some (.string m) := (hbel.cell (p := ⟨b, _, none⟩) hb).trans g2
      have ck : (wr.alloc (.cells #[.string s, .int .u8 q, .string m] 32)).cell? ⟨bk, 0, none⟩ = some (.bool false) := (World.cell?_of_block (w := wr) (Below.heap_alloc wr _ _ (Nat.lt_of_lt_of_le hbk hbel.size))).trans ((hbel.cell (p := ⟨bk, _, none⟩) hbk).trans hk)
      have hi : (k : Int) < 7 := by omega
      have hbw : b < wr.heap.size := Nat.lt_of_lt_of_le hb hbel.size
      have hbkw : bk < wr.heap.size := Nat.lt_of_lt_of_le hbk hbel.size
      have hsz : w.heap.size ≤ wr.heap.size := hbel.size
      have B1 : Hid (Below w.heap.size w wr) := hbel
      have HS : Hid (s = nms.getD k ByteArray.empty) := hs
      have CK : Hid ((wr.alloc (.cells #[.string s, .int .u8 q, .string m] 32)).cell? ⟨bk, 0, none⟩ = some (.bool false)) := ck
      clear hbel hc g0 g1 g2 hk hs hg ck HS
      go_wp2_with fail
      refine (keep_any s m q bk false _ (by simp; omega) CK.out).mono ?_
      rintro e w1 ⟨rfl, rfl⟩
      go_wp2
      go_roundw
      case rel => exact ⟨k + 1, by omega, by go_num, ((B1.out.alloc hsz _).alloc (by simp; omega) _), rfl⟩
      case measure => simp [intOf]; omega
    · obtain rfl : k = 7 := by omega
      have B1 : Hid (Below w.heap.size w wr) := hbel
      clear hbel hc hk hg
      go_wp2_with fail
      refine (Tryd.strings_Join_none none 0 _ _).mono ?_
      rintro e w1 ⟨rfl, rfl⟩
      go_wp2
      go_ret
      exact ⟨rfl, B1.out⟩

theorem ownBlock_ge {w : World} {base : Nat} {e : TypeId} {size : Nat} {v : Value} {n : Nat} {xs : List Value} (h : w.ownsRow base e size v n xs) : ∀ k, v.ownBlock = some k → base ≤ k := by
  intro k hk
  rcases h.2 with ⟨rfl, _⟩ | ⟨g, cap, cur, rfl, hg, _⟩
  · simp [Value.ownBlock] at hk
  · simp [Value.ownBlock] at hk
    omega

theorem take_next (k : Nat) (s : ByteArray) (hk : k < 7) (hs : s = nms.getD k ByteArray.empty) : List.take k (List.map Value.string nms) ++ [Value.string s] = (nms.take (k + 1)).map Value.string := by
  have hl : k < nms.length := hk
  rw [List.take_succ_eq_append_getElem hl, List.map_append, List.map_take, hs]
  simp [List.getD, hl]

/-- The slice that owns the seven names. -/
theorem own_seven {w : World} {base : Nat} {v : Value} (h : w.ownsRow base 9 1 v 7 ((nms.take 7).map Value.string)) :
    ∃ g c, v = .slice (some ⟨g, 0, none⟩) 7 c ∧ 7 ≤ c ∧ g < w.heap.size ∧ ∀ (j : Nat) x, nms[j]? = some x → w.cell? ⟨g, 0 + j, none⟩ = some (.string x) := by
  rcases h.2 with ⟨_, h0⟩ | ⟨g, cap, cur, rfl, hg, hh, hc, _⟩
  · cases h0
  · refine ⟨g, cap, rfl, hc, (Array.getElem?_eq_some_iff.1 hh).1, fun j x hj => ?_⟩
    have hl : j < 7 := (List.getElem?_eq_some_iff.1 hj).1
    rw [Nat.zero_add, h.cellAt j (by omega), List.getElem?_map, List.getElem?_take_of_lt hl, hj]
    rfl

theorem join_all (g c : Nat) (w : World) (hg : g < w.heap.size) (hc : 7 ≤ c) (hcells : ∀ (j : Nat) x, nms[j]? = some x → w.cell? ⟨g, 0 + j, none⟩ = some (.string x)) :
    Calls Tryd.prog 11 #[.slice (some ⟨g, 0, none⟩) 7 c, .string ⟨#[44, 32]⟩] w fun e w' => e = .returned (.string ⟨(Lib.join (nms.map (·.data.toList)) [44, 32]).toArray⟩) ∧ Below w.heap.size w w' :=
  Tryd.strings_Join g 0 c nms ⟨#[44, 32]⟩ w hcells hg (by decide) hc (by decide)

set_option maxHeartbeats 1000000 in
theorem names_all (b off cap bk : Nat) (w : World) (hbk : bk < w.heap.size) (hk : w.cell? ⟨bk, 0, none⟩ = some (.bool true)) (ht : Table w b off cap) :
    Calls Tryd.prog 8 #[.func (.func 9) #[] #[.pointer (some ⟨bk, 0, none⟩)]] w fun e w' => e = .returned (.string ⟨(Lib.join (nms.map (·.data.toList)) [44, 32]).toArray⟩) ∧ Below w.heap.size w w' := by
  obtain ⟨hg, hb, hc⟩ := ht
  obtain ⟨i0, hi0, hz0, hz1, hz2⟩ := info_parts Tryd.info9
  go_enter Tryd.func8, Tryd.ntmps8
  go_wp2_with fail
  go_loopw [3, 8] (fun v i wr => ∃ k : Nat, k ≤ 7 ∧ i = .int .i64 k ∧ Below w.heap.size w wr ∧ wr.ownsRow w.heap.size 9 1 v k ((nms.take k).map Value.string)) (fun _ i _ => 7 - (intOf i).toNat)
  case atStart => exact ⟨0, Nat.zero_le _, rfl, Below.refl _ _, World.ownsRow_nil _ _ _ _⟩
  case round =>
    obtain ⟨k, hk7, rfl, hbel, hown⟩ := hrel
    by_cases hlt : k < 7
    · obtain ⟨q, m, g0, g1, g2⟩ := hc k hlt
      obtain ⟨s, hs⟩ : ∃ s, s = nms.getD k ByteArray.empty := ⟨_, rfl⟩
      rw [← hs] at g0
      have c0 : wr.cell? ⟨b, off + k * 3, none⟩ = some (.string s) := (hbel.cell (p := ⟨b, _, none⟩) hb).trans g0
      have c1 : wr.cell? ⟨b, off + k * 3 + 1, none⟩ = some (.int .u8 q) := (hbel.cell (p := ⟨b, _, none⟩) hb).trans g1
      have c2 : wr.cell? ⟨b, off + k * 3 + 2, none⟩ = some (.string m) := (hbel.cell (p := ⟨b, _, none⟩) hb).trans g2
      have ck : (wr.alloc (.cells #[.string s, .int .u8 q, .string m] 32)).cell? ⟨bk, 0, none⟩ = some (.bool true) := (World.cell?_of_block (w := wr) (Below.heap_alloc wr _ _ (Nat.lt_of_lt_of_le hbk hbel.size))).trans ((hbel.cell (p := ⟨bk, _, none⟩) hbk).trans hk)
      have hi : (k : Int) < 7 := by omega
      have hbw : b < wr.heap.size := Nat.lt_of_lt_of_le hb hbel.size
      have hbkw : bk < wr.heap.size := Nat.lt_of_lt_of_le hbk hbel.size
      have hsz : w.heap.size ≤ wr.heap.size := hbel.size
      have B1 : Hid (Below w.heap.size w wr) := hbel
      have HS : Hid (s = nms.getD k ByteArray.empty) := hs
      have CK : Hid ((wr.alloc (.cells #[.string s, .int .u8 q, .string m] 32)).cell? ⟨bk, 0, none⟩ = some (.bool true)) := ck
      clear hbel hc g0 g1 g2 hk hs hg ck
      go_wp2_with fail
      refine (keep_any s m q bk true _ (by simp; omega) CK.out).mono ?_
      rintro e w1 ⟨rfl, rfl⟩
      go_wp2_with (first | (at_builtin; refine wpList_append_own _ rfl _ _ 37 rfl w.heap.size 9 i0 (.string ByteArray.empty) 1 16 Tryd.underlying37 hi0 hz0 hz1 hz2 rfl (by decide) _ _ _ rfl (((hown.alloc _).alloc _).alloc _) ⟨wr.heap.size + 1 + 1, 0, none⟩ 1 1 [.string s] rfl rfl ?c1 ?c2 ?c3 ?c4 ?c5 ?_))
      case c1 =>
        intro j u hj
        match j, hj with
        | 0, hj =>
          simp at hj
          subst hj
          show World.cell? _ ⟨wr.heap.size + 1 + 1, 0 + 0, none⟩ = _
          go_simp
      case c2 => intro u hu; simp at hu; subst hu; rfl
      case c3 => unfold maxLen; omega
      case c4 => omega
      case c5 => simp; omega
      intro v' w1 hown' hgrow _
      have R1 : Hid (w1.ownsRow w.heap.size 9 1 v' (k + 1) ((nms.take (k + 1)).map Value.string)) := by
        show w1.ownsRow w.heap.size 9 1 v' (k + 1) ((nms.take (k + 1)).map Value.string)
        rw [← take_next k s hlt HS.out]
        exact hown'
      have R2 : Hid (Below w.heap.size w w1) := Below.grown (((B1.out.alloc hsz _).alloc (by simp; omega) _).alloc (by simp; omega) _) hgrow (by simp; omega) (ownBlock_ge hown)
      clear hown' hgrow hown
      go_wp2
      go_roundw
      case rel => exact ⟨k + 1, by omega, by go_num, R2.out, R1.out⟩
      case measure => simp [intOf]; omega
    · obtain rfl : k = 7 := by omega
      have B1 : Hid (Below w.heap.size w wr) := hbel
      obtain ⟨g, c, hv, h7, hgl, hcs⟩ := own_seven hown
      have HC : Hid (∀ (j : Nat) x, nms[j]? = some x → wr.cell? ⟨g, 0 + j, none⟩ = some (.string x)) := hcs
      clear hbel hc hk hg hown hcs
      subst hv
      go_wp2_with fail
      refine (join_all g c wr hgl h7 HC.out).mono ?_
      rintro e w1 ⟨rfl, hb1⟩
      go_wp2
      go_ret
      exact ⟨rfl, B1.out.trans (hb1.mono B1.out.size)⟩

theorem table_alloc {w : World} {b off cap : Nat} (ht : Table w b off cap) (h0 : 0 < w.heap.size) (o : Obj) : Table (w.alloc o) b off cap := by
  have hc : ∀ a : Addr, a.block < w.heap.size → (w.alloc o).cell? a = w.cell? a := fun a ha => World.cell?_of_block (w := w) (Below.heap_alloc w _ _ ha)
  obtain ⟨hg, hb, hk⟩ := ht
  refine ⟨(hc _ h0).trans hg, by simp; omega, fun k hk7 => ?_⟩
  obtain ⟨q, m, g0, g1, g2⟩ := hk k hk7
  exact ⟨q, m, (hc _ hb).trans g0, (hc _ hb).trans g1, (hc _ hb).trans g2⟩

theorem zz_none (b off cap : Nat) (w : World) (h0 : 0 < w.heap.size) (ht : Table w b off cap) :
    Calls Tryd.prog 5 #[.bool false] w fun e w' => e = .returned (.string ⟨#[]⟩) ∧ Below w.heap.size w w' := by
  have HT : Hid (Table w b off cap) := ht
  clear ht
  go_enter Tryd.func5, Tryd.ntmps5
  go_wp2_with fail
  refine (names_none b off cap _ _ ?_ ?_ (table_alloc HT.out h0 _)).mono ?_
  · simp
  · simp
  rintro e w1 ⟨rfl, hb⟩
  go_wp2
  go_ret
  exact ⟨rfl, ((Below.refl _ _).alloc (Nat.le_refl _) _).trans (hb.mono (by simp))⟩

theorem zz_all (b off cap : Nat) (w : World) (h0 : 0 < w.heap.size) (ht : Table w b off cap) :
    Calls Tryd.prog 5 #[.bool true] w fun e w' => e = .returned (.string ⟨(Lib.join (nms.map (·.data.toList)) [44, 32]).toArray⟩) ∧ Below w.heap.size w w' := by
  have HT : Hid (Table w b off cap) := ht
  clear ht
  go_enter Tryd.func5, Tryd.ntmps5
  go_wp2_with fail
  refine (names_all b off cap _ _ ?_ ?_ (table_alloc HT.out h0 _)).mono ?_
  · simp
  · simp
  rintro e w1 ⟨rfl, hb⟩
  go_wp2
  go_ret
  exact ⟨rfl, ((Below.refl _ _).alloc (Nat.le_refl _) _).trans (hb.mono (by simp))⟩

theorem law_none (b off cap : Nat) (w : World) (h0 : 0 < w.heap.size) (ht : Table w b off cap) :
    Calls Tryd.prog 3 #[.bool false] w fun e w' => e = .returned (.bool true) ∧ Below w.heap.size w w' := by
  have HT : Hid (Table w b off cap) := ht
  clear ht
  go_enter Tryd.func3, Tryd.ntmps3
  go_wp2_with fail
  refine (zz_none b off cap _ h0 HT.out).mono ?_
  rintro e w1 ⟨rfl, hb⟩
  go_wp2
  go_ret
  exact ⟨rfl, hb⟩

theorem law_all (b off cap : Nat) (w : World) (h0 : 0 < w.heap.size) (ht : Table w b off cap) :
    Calls Tryd.prog 3 #[.bool true] w fun e w' => e = .returned (.bool true) ∧ Below w.heap.size w w' := by
  have HT : Hid (Table w b off cap) := ht
  clear ht
  go_enter Tryd.func3, Tryd.ntmps3
  go_wp2_with fail
  refine (zz_all b off cap _ h0 HT.out).mono ?_
  rintro e w1 ⟨rfl, hb⟩
  have hB : Hid (Below w.heap.size w w1) := hb
  clear hb
  go_wp2
  go_ret
  exact ⟨rfl, hB.out⟩
end Go.Proofs.Qxb6609465aDoor
