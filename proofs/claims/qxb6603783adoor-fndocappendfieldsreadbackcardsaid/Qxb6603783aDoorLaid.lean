/-
  WHAT THE ROWS' CELL 'laid' GIVES THE WALKS.
-/
import Derived.Test.Qxb6603783aDoorRows
import Derived.Test.Qxb6603783aDoorErr
import Derived.ProofKit
import Derived.LaidMore
import Derived.Stop.Joined
import Derived.Stop.LaidErr
namespace Go.Proofs.Qxb6603783aDoor
open Go.ChangeShapes Go.WideShapes Go.ChangeAt Go.RowKit

theorem iface_of_trod {H : Type} {enc : TypeId × Value → H} {P : Program} {w : World} {base : Nat} {sp : Nat → Bool} {held : Bool} {fuel : Nat} {t : TypeId} {ms : Array (String × TypeId)} {cs : List Value} {y : DataW H × List MemPlace}
    (ht : P.underlying t = some (.interface ms)) (h : DataW.trod enc P w base sp held fuel t cs = some y) : cs = [.nilIface] ∨ ∃ u v, cs = [.iface u v] := by
  cases fuel with
  | zero => simp [DataW.trod] at h
  | succ fuel =>
    simp only [DataW.trod, ht] at h
    split at h
    all_goals simp_all

theorem of_laid {W : World} (h : laidMetH Tryd.prog Rows.fnDocCutNumberSuffixWholeRow.laid W) : Laid W := by
  rw [MakeChecks.laidMetH_plain _ _ _ (by kernel_rfl)] at h
  obtain ⟨ps, ⟨g0, t0, cs0, f0, p0, q0, _, _, _, _, ⟨g1, t1, cs1, f1, p1, q1, _, _, _, _, ⟨g2, t2, cs2, f2, p2, q2, hg2, ht2, hv2, hd2, ⟨g3, t3, cs3, f3, p3, q3, hg3, ht3, hv3, hd3, _, _⟩, _⟩, _⟩, _⟩, _⟩ := h
  obtain rfl : g2 = 0 := Option.some.inj (hg2.symm.trans (by kernel_rfl))
  obtain rfl : t2 = 65 := Option.some.inj (ht2.symm.trans (by kernel_rfl))
  obtain rfl : g3 = 2 := Option.some.inj (hg3.symm.trans (by kernel_rfl))
  obtain rfl : t3 = 51 := Option.some.inj (ht3.symm.trans (by kernel_rfl))
  have e : (Rows.laid_internal_strconv_uint64pow10 : DataW Unit) = Lib.tabData .u64 Lib.pow10Tab := by kernel_rfl
  rw [e] at hd2
  have hc2 := Lib.cells_of_tab Tryd.underlying65 Tryd.underlying23 (by kernel_rfl) (by kernel_rfl) hd2
  refine ⟨?_, ?_⟩
  · unfold World.var? at hv2
    rw [hg2] at hv2
    simp only [Option.bind_some] at hv2
    split at hv2
    · rename_i cs t fz hh
      refine ⟨t, fz, ?_⟩
      rw [hh]
      have := Option.some.inj hv2
      rw [this, ← hc2]
    · cases hv2
  · have hcell := World.var?_cell hg3 hv3 0
    rcases iface_of_trod Tryd.underlying51 hd3 with hc | ⟨u, v, hc⟩
    · refine ⟨.nilIface, ?_, .inl rfl⟩
      rw [Array.eq_one_of_toList hc] at hcell
      simpa using hcell
    · refine ⟨.iface u v, ?_, .inr ⟨u, v, rfl⟩⟩
      rw [Array.eq_one_of_toList hc] at hcell
      simpa using hcell
end Go.Proofs.Qxb6603783aDoor
