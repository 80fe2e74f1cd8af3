/-
  HOW THE ARGUMENTS READ: a slice of strings; a slice of structs of three strings.
-/
import Derived.Test.Qxb6602743aShParts
import Derived.SliceStrings
import Derived.Deep.Strs
import Derived.ProofKit
namespace Go.Proofs.Qxb6602743a
open Go.ChangeShapes Go.WideShapes Go.ChangeAt Go.RowKit

def Opened (W : World) (a : Option Addr) (len m : Nat) : Prop := ∃ ss : List ByteArray, ss.length = len * m ∧ Ss W a ss ∧ (a = none → len = 0) ∧ len ≤ maxLen

theorem ss_of_each {W : World} {x : Addr} {n : Nat} (h : ∀ j, j < n → ∃ s, W.cell? (x.add j) = some (.string s)) : ∃ ss : List ByteArray, ss.length = n ∧ Ss W (some x) ss := by
  refine ⟨(List.range n).map fun j => match W.cell? (x.add j) with | some (.string s) => s | _ => ByteArray.empty, by simp, ?_⟩
  intro j hj
  have hj' : j < n := by simpa using hj
  obtain ⟨s, hs⟩ := h j hj'
  refine ⟨x, rfl, ?_⟩
  rw [hs]
  simp [List.getD, hj', hs]

theorem open_ss {H : Type} {enc : TypeId × Value → H} {W : World} {base : Nat} {sp : Nat → Bool} {held : Bool} {a : Option Addr} {len cap : Nat} {d : DataW H} {ps : List MemPlace}
    (h : DataW.Trod enc Try.prog W base sp held 22 (.slice a len cap) d ps) : Opened W a len 1 := by
  obtain ⟨fuel, hf⟩ := h
  rcases open_strings Try.underlying22 Try.underlying9 (by kernel_rfl) hf with ⟨hcs, _⟩ | ⟨x, l, c, ss, hcs, _, hl, hm, hz, _, hcell, _⟩
  · simp [Value.cells] at hcs
    obtain ⟨rfl, rfl, rfl⟩ := hcs
    exact ⟨[], rfl, Ss.nil _ _, fun _ => rfl, Nat.zero_le _⟩
  · simp [Value.cells] at hcs
    obtain ⟨rfl, rfl, rfl⟩ := hcs
    have hlen : len ≤ ss.length := by rw [hz]; split <;> omega
    obtain ⟨ss', h1, h2⟩ := ss_of_each (W := W) (x := x) (n := len * 1) (fun j hj => ⟨_, hcell j (by omega)⟩)
    exact ⟨ss', h1, h2, (fun h => by cases h), by omega⟩

theorem open_mts {H : Type} {enc : TypeId × Value → H} {W : World} {base : Nat} {sp : Nat → Bool} {held : Bool} {a : Option Addr} {len cap : Nat} {d : DataW H} {ps : List MemPlace}
    (h : DataW.Trod enc Try.prog W base sp held 23 (.slice a len cap) d ps) : Opened W a len 3 := by
  obtain ⟨fuel, hf⟩ := h
  rcases DataW.trod_slice Try.underlying23 hf with ⟨hcs, _⟩ | ⟨x, l, c, elems, rest, n, _, hcs, _, _, hl, hm, hle, hel, _, _⟩
  · simp [Value.cells] at hcs
    obtain ⟨rfl, rfl, rfl⟩ := hcs
    exact ⟨[], rfl, Ss.nil _ _, fun _ => rfl, Nat.zero_le _⟩
  · simp [Value.cells] at hcs
    obtain ⟨rfl, rfl, rfl⟩ := hcs
    have h46 : Try.prog.cellsOf 46 = 3 := by kernel_rfl
    have h9 : Try.prog.cellsOf 9 = 1 := by kernel_rfl
    have each : ∀ i, i < len → ∀ r, r < 3 → ∃ s, W.cell? (x.add (i * 3 + r)) = some (.string s) := by
      intro i hi r hr
      have hy := hel i hi
      rw [List.getElem?_eq_getElem (by omega), h46, Option.bind_eq_some_iff] at hy
      obtain ⟨cs, hcs, hy⟩ := hy
      obtain ⟨_, hlen, hcell⟩ := World.cells?_some hcs
      obtain ⟨y0, y1, y2, k, _, _, t0, t1, t2⟩ := Go.Deep.trod_struct3 Try.underlying46 hy
      obtain ⟨s0, e0, _⟩ := DataW.trod_string Try.underlying9 t0
      obtain ⟨s1, e1, _⟩ := DataW.trod_string Try.underlying9 t1
      obtain ⟨s2, e2, _⟩ := DataW.trod_string Try.underlying9 t2
      have hc := hcell r hr
      rw [Addr.add_add] at hc
      rw [hc]
      rw [show Try.prog.cellsOf 9 = 1 from h9] at e0 e1 e2
      match cs, hlen with
      | [u0, u1, u2], _ =>
        simp at e0 e1 e2
        match r, hr with
        | 0, _ => exact ⟨s0, by simp [e0]⟩
        | 1, _ => exact ⟨s1, by simp [e1]⟩
        | 2, _ => exact ⟨s2, by simp [e2]⟩
    obtain ⟨ss', h1, h2⟩ := ss_of_each (W := W) (x := x) (n := len * 3) (fun j hj => by
      have := each (j / 3) (by omega) (j % 3) (by omega)
      rw [show j / 3 * 3 + j % 3 = j by omega] at this
      exact this)
    exact ⟨ss', h1, h2, (fun h => by cases h), by omega⟩
end Go.Proofs.Qxb6602743a
