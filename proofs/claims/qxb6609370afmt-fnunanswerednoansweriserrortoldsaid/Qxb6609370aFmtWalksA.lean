/-
  THE WALKS over fmt.Errorf, cmp.Or[string] and gateway.Unanswered.
-/
import Derived.Test.Qxb6609370aFmtFacts
import Derived.WalkKit
import Derived.WalkSpells
import Derived.WalkLawsBesides
import Derived.Outline
namespace Go.Proofs.Qxb6609370aFmt
open Go.RowKit Go.Extern.Stop Go.Stop Go.Extern

/-- fmt.Errorf at the one format that is come to, two strings: a new error. -/
theorem errorf_any (F : Interp) (s t : ByteArray) (b : Nat) (w : World) (hF : F.answers w.tape)
    (hc0 : w.cell? ⟨b, 0, none⟩ = some (.iface 9 (.string s))) (hc1 : w.cell? ⟨b, 1, none⟩ = some (.iface 9 (.string t))) :
    Calls Tryf.prog 9 #[.string ⟨#[110, 111, 32, 117, 115, 97, 98, 108, 101, 32, 97, 110, 115, 119, 101, 114, 32, 99, 97, 109, 101, 32, 102, 114, 111, 109, 32, 116, 104, 101, 32, 65, 80, 73, 32, 97, 116, 32, 37, 115, 58, 32, 37, 115]⟩, .slice (some ⟨b, 0, none⟩) 2 2] w fun e w' =>
      e = .returned (.iface 42 (.pointer (some ⟨w.heap.size, 0, none⟩))) ∧ Below w.heap.size w w' := by
  have hF' := answers_open hF
  go_enter Tryf.func9, Tryf.ntmps9
  go_wp2
  go_ret
  exact ⟨rfl, ((Below.refl _ _).alloc (Nat.le_refl _) _).drew⟩

/-- cmp.Or of two strings, the first empty. -/
theorem or_empty (t : ByteArray) (b : Nat) (w : World) (ht : t.toList.isEmpty = false)
    (hc0 : w.cell? ⟨b, 0, none⟩ = some (.string ⟨#[]⟩)) (hc1 : w.cell? ⟨b, 1, none⟩ = some (.string t)) :
    Calls Tryf.prog 10 #[.slice (some ⟨b, 0, none⟩) 2 2] w fun e w' => e = .returned (.string t) ∧ w' = w := by
  go_enter Tryf.func10, Tryf.ntmps10
  go_wp2
  refine wp_loop_rounds 2 ?_
  rw [rounds_succ]
  go_wp2
  rw [rounds_succ]
  go_wp2
  go_ret
  exact ⟨rfl, rfl⟩

/-- cmp.Or of two strings, the first not empty. -/
theorem or_first (s : ByteArray) (b : Nat) (w : World) (hs : s.toList.isEmpty = false)
    (hc0 : w.cell? ⟨b, 0, none⟩ = some (.string s)) :
    Calls Tryf.prog 10 #[.slice (some ⟨b, 0, none⟩) 2 2] w fun e w' => e = .returned (.string s) ∧ w' = w := by
  go_enter Tryf.func10, Tryf.ntmps10
  go_wp2
  refine wp_loop_rounds 1 ?_
  rw [rounds_succ]
  go_wp2
  go_ret
  exact ⟨rfl, rfl⟩

theorem nsw_some : (⟨#[110, 111, 110, 101, 32, 115, 97, 105, 100, 32, 119, 104, 121]⟩ : ByteArray).toList.isEmpty = false := by decide +kernel
theorem assert_nil (w : World) : (Instr.typeAssert .nilIface 20 9 true).run Tryf.prog w = .ok (.tuple #[.string ⟨#[]⟩, .bool false]) w := by kernel_rfl
theorem assert_str (s : ByteArray) (w : World) : (Instr.typeAssert (.iface 9 (.string s)) 20 9 true).run Tryf.prog w = .ok (.tuple #[.string s, .bool true]) w := by kernel_rfl

theorem unanswered_empty (F : Interp) (cls url : ByteArray) (r : Nat) (v : Value) (w : World) (hF : F.answers w.tape)
    (h1 : ∀ o, (Instr.lookup 26 (.map (some r)) (.string ⟨#[104, 116, 116, 112, 95, 115, 116, 97, 116, 117, 115]⟩) true).run Tryf.prog (w.alloc o) = .ok (.tuple #[.nilIface, .bool false]) (w.alloc o))
    (h2 : ∀ o, (Instr.lookup 26 (.map (some r)) (.string ⟨#[101, 114, 114, 111, 114]⟩) false).run Tryf.prog (w.alloc o) = .ok .nilIface (w.alloc o)) :
    Calls Tryf.prog 7 #[.agg #[.string cls, .int .i64 0, .map (some r), v], .string url] w fun e w' =>
      ∃ a, e = .returned (.iface 42 (.pointer (some a))) ∧ Below w.heap.size w w' := by
  have h3 := assert_nil
  go_enter Tryf.func7, Tryf.ntmps7
  go_wp2_with fail
  refine (or_empty ⟨#[110, 111, 110, 101, 32, 115, 97, 105, 100, 32, 119, 104, 121]⟩ _ _ ?_ ?_ ?_).mono ?_
  · exact nsw_some
  · simp
  · simp
  rintro e w1 ⟨rfl, rfl⟩
  go_wp2_with fail
  refine (errorf_any F url ⟨#[110, 111, 110, 101, 32, 115, 97, 105, 100, 32, 119, 104, 121]⟩ _ _ ?_ ?_ ?_).mono ?_
  · exact hF
  · go_simp
  · go_simp
  rintro e w1 ⟨rfl, hb⟩
  go_wp2
  go_ret
  exact ⟨_, rfl, (((((Below.refl _ _).alloc (Nat.le_refl _) _).alloc (by simp) _).alloc (by simp; omega) _).trans (hb.mono (by simp; omega)))⟩

theorem unanswered_why (F : Interp) (cls url why : ByteArray) (hw : why.toList.isEmpty = false) (r : Nat) (v : Value) (w : World) (hF : F.answers w.tape)
    (h1 : ∀ o, (Instr.lookup 26 (.map (some r)) (.string ⟨#[104, 116, 116, 112, 95, 115, 116, 97, 116, 117, 115]⟩) true).run Tryf.prog (w.alloc o) = .ok (.tuple #[.nilIface, .bool false]) (w.alloc o))
    (h2 : ∀ o, (Instr.lookup 26 (.map (some r)) (.string ⟨#[101, 114, 114, 111, 114]⟩) false).run Tryf.prog (w.alloc o) = .ok (.iface 9 (.string why)) (w.alloc o)) :
    Calls Tryf.prog 7 #[.agg #[.string cls, .int .i64 0, .map (some r), v], .string url] w fun e w' =>
      ∃ a, e = .returned (.iface 42 (.pointer (some a))) ∧ Below w.heap.size w w' := by
  have h3 := assert_str
  go_enter Tryf.func7, Tryf.ntmps7
  go_wp2_with fail
  refine (or_first why _ _ ?_ ?_).mono ?_
  · exact hw
  · simp
  rintro e w1 ⟨rfl, rfl⟩
  go_wp2_with fail
  refine (errorf_any F url why _ _ ?_ ?_ ?_).mono ?_
  · exact hF
  · go_simp
  · go_simp
  rintro e w1 ⟨rfl, hb⟩
  go_wp2
  go_ret
  exact ⟨_, rfl, (((((Below.refl _ _).alloc (Nat.le_refl _) _).alloc (by simp) _).alloc (by simp; omega) _).trans (hb.mono (by simp; omega)))⟩
end Go.Proofs.Qxb6609370aFmt
