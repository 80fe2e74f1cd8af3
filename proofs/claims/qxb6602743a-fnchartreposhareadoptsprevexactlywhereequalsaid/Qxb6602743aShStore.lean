/-
  WALKS: the same slice; share.
-/
import Derived.Test.Qxb6602743aShCmp
import Derived.LaidEqlPtr
namespace Go.Proofs.Qxb6602743a
open Go.RowKit

theorem store_yes (a : Option Addr) (n c d : Nat) (w : World) (ha : n = 0 ∨ ∃ b off, a = some ⟨b, off, none⟩) :
    Calls Try.prog 18 #[.slice a n c, .slice a n d] w fun e w' => e = .returned (.bool true) ∧ ∃ q, w' = w.drewN q := by
  have he1 := fun wx => Lib.run_eql_slice_nil (P := Try.prog) wx 22 9 a n c 0 0 Try.underlying22
  have he2 := fun wx => Lib.run_eql_slice_nil (P := Try.prog) wx 22 9 a n d 0 0 Try.underlying22
  by_cases h0 : n = 0
  · clear ha
    subst h0
    have z : ((0 : Int) == 0) = true := rfl
    cases a with
    | none =>
      go_enter Try.func18, Try.ntmps18
      go_wp2
      go_quiet (fail)
      go_wp2
      go_ret
      exact ⟨rfl, _, rfl⟩
    | some x =>
      go_enter Try.func18, Try.ntmps18
      go_wp2
      go_quiet (fail)
      go_wp2
      go_ret
      exact ⟨rfl, _, rfl⟩
  · rcases ha with ha | ⟨b, off, rfl⟩
    · exact absurd ha h0
    · have hp : 0 < n := by omega
      have z : ((n : Int) == 0) = false := by simp; omega
      have hp2 : (0 : Int) < (n : Int) := by omega
      obtain ⟨i0, hi, _⟩ := info_parts sinfo9
      have hpe := fun wx => run_eql_ptr_same (P := Try.prog) (w := wx) ⟨b, off, none⟩ Try.underlying53 hi
      go_enter Try.func18, Try.ntmps18
      go_wp2
      go_quiet (fail)
      go_wp2
      go_ret
      exact ⟨rfl, _, rfl⟩

theorem storem_yes (a : Option Addr) (n c d : Nat) (w : World) (ha : n = 0 ∨ ∃ b off, a = some ⟨b, off, none⟩) :
    Calls Try.prog 19 #[.slice a n c, .slice a n d] w fun e w' => e = .returned (.bool true) ∧ ∃ q, w' = w.drewN q := by
  have he1 := fun wx => Lib.run_eql_slice_nil (P := Try.prog) wx 28 51 a n c 0 0 Try.underlying28
  have he2 := fun wx => Lib.run_eql_slice_nil (P := Try.prog) wx 28 51 a n d 0 0 Try.underlying28
  by_cases h0 : n = 0
  · clear ha
    subst h0
    have z : ((0 : Int) == 0) = true := rfl
    cases a with
    | none =>
      go_enter Try.func19, Try.ntmps19
      go_wp2
      go_quiet (fail)
      go_wp2
      go_ret
      exact ⟨rfl, _, rfl⟩
    | some x =>
      go_enter Try.func19, Try.ntmps19
      go_wp2
      go_quiet (fail)
      go_wp2
      go_ret
      exact ⟨rfl, _, rfl⟩
  · rcases ha with ha | ⟨b, off, rfl⟩
    · exact absurd ha h0
    · have hp : 0 < n := by omega
      have z : ((n : Int) == 0) = false := by simp; omega
      have hp2 : (0 : Int) < (n : Int) := by omega
      obtain ⟨i0, hi, _⟩ := info_parts sinfo51
      have hpe := fun wx => run_eql_ptr_same (P := Try.prog) (w := wx) ⟨b, off, none⟩ Try.underlying54 hi
      go_enter Try.func19, Try.ntmps19
      go_wp2
      go_quiet (fail)
      go_wp2
      go_ret
      exact ⟨rfl, _, rfl⟩
end Go.Proofs.Qxb6602743a
