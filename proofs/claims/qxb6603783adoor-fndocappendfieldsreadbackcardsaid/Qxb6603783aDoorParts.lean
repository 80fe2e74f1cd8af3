/-
  PARTS: slices of bytes in memory, and laws on append for the walk. No program is named: P is any.
-/
import Derived.WalkKit
import Derived.Lib.AppendStr
import Derived.ArgAppend
import Derived.Deep.QuietTactic
import Derived.Test.Qxb6603783aDoorPlain
namespace Go.Proofs.Qxb6603783aDoor
open Go.RowKit

theorem hid {p : Prop} (h : p) : Hid p := h

def u8s (zs : List Int) : List Value := zs.map (Value.int .u8)
theorem u8s_len (zs : List Int) : (u8s zs).length = zs.length := by simp [u8s]
theorem u8s_append (a b : List Int) : u8s (a ++ b) = u8s a ++ u8s b := by simp [u8s]
theorem u8s_get (zs : List Int) (j : Nat) (h : j < zs.length) : (u8s zs)[j]? = some (.int .u8 (zs.getD j 0)) := by
  simp [u8s, List.getD, List.getElem?_eq_getElem h]

/-- The slice that begins at 'ao' reads as the bytes zs. -/
def Rd (w : World) (ao : Option Addr) (zs : List Int) : Prop :=
  ∀ j, j < zs.length → ∃ x, ao = some x ∧ w.cell? (x.add j) = some (.int .u8 (zs.getD j 0))

theorem Rd.nil (w : World) (ao : Option Addr) : Rd w ao [] := fun j h => absurd h (by simp)

theorem Rd.kept {w w' : World} {ao : Option Addr} {zs : List Int} (h : Rd w ao zs) (hb : Below w.heap.size w w') : Rd w' ao zs := by
  intro j hj
  obtain ⟨x, hx, hc⟩ := h j hj
  refine ⟨x, hx, ?_⟩
  rw [hb.cell (p := x.add j) (World.block_lt_of_cell? w _ hc)]
  exact hc

theorem Rd.drewN {w : World} {ao : Option Addr} {zs : List Int} (h : Rd w ao zs) (q : Nat) : Rd (w.drewN q) ao zs := h

theorem Rd.at {w : World} {ao : Option Addr} {zs : List Int} (h : Rd w ao zs) (hn : 0 < zs.length) :
    ∃ b off, ao = some ⟨b, off, none⟩ ∧ ∀ j, j < zs.length → w.cell? ⟨b, off + j, none⟩ = some (.int .u8 (zs.getD j 0)) := by
  obtain ⟨x, hx, hc⟩ := h 0 hn
  obtain ⟨b, off, spot⟩ := x
  have hspot : spot = none := by simpa [Addr.add] using World.cell?_spot hc
  subst hspot
  refine ⟨b, off, hx, fun j hj => ?_⟩
  obtain ⟨y, hy, hcy⟩ := h j hj
  rw [hx] at hy
  obtain rfl := Option.some.inj hy
  rw [Addr.add_lit] at hcy
  exact hcy

theorem Rd.take {w : World} {ao : Option Addr} {zs : List Int} (h : Rd w ao zs) (k : Nat) : Rd w ao (zs.take k) := by
  intro j hj
  have hj' : j < k ∧ j < zs.length := by rw [List.length_take] at hj; omega
  obtain ⟨x, hx, hc⟩ := h j hj'.2
  refine ⟨x, hx, ?_⟩
  rw [hc]
  simp [hj'.1]

/-- The call's own slice v holds the bytes zs in a block from B on; below B nothing has turned since W0. -/
def OwnB (B : Nat) (v : Value) (zs : List Int) (W0 w : World) : Prop :=
  w.ownsRow B 5 1 v zs.length (u8s zs) ∧ Below B W0 w ∧ B ≤ w.heap.size

theorem OwnB.grown {B : Nat} {v v' : Value} {zs zs' : List Int} {W0 w w' : World} (h : OwnB B v zs W0 w) (ho : w'.ownsRow B 5 1 v' zs'.length (u8s zs')) (hg : w.grownBy w' v.ownBlock) : OwnB B v' zs' W0 w' :=
  ⟨ho, h.2.1.grown hg h.2.2 (fun k hk => (h.1.lt k hk).1), Nat.le_trans h.2.2 hg.size⟩

theorem OwnB.alloc {B : Nat} {v : Value} {zs : List Int} {W0 w : World} (h : OwnB B v zs W0 w) (o : Obj) : OwnB B v zs W0 (w.alloc o) :=
  ⟨h.1.alloc o, h.2.1.alloc h.2.2 o, Nat.le_trans h.2.2 ((Below.refl 0 w).alloc (Nat.zero_le _) o).size⟩

/-- Its value written out, and how it reads. -/
theorem OwnB.form {B : Nat} {v : Value} {zs : List Int} {W0 w : World} (h : OwnB B v zs W0 w) (hn : 0 < zs.length) :
    ∃ g cap, v = .slice (some ⟨g, 0, none⟩) zs.length cap ∧ B ≤ g ∧ zs.length ≤ cap ∧ cap ≤ maxLen ∧ ∀ j, j < zs.length → w.cell? ⟨g, j, none⟩ = some (.int .u8 (zs.getD j 0)) := by
  rcases h.1.2 with ⟨_, h0⟩ | ⟨g, cap, cur, hv, hg, hh, h1, h2, _⟩
  · omega
  · refine ⟨g, cap, hv, hg, h1, h2, fun j hj => ?_⟩
    have := h.1.cells (g := g) (by rw [hv]; rfl) j _ (u8s_get zs j hj)
    rw [Addr.add_lit, Nat.zero_add] at this
    exact this

theorem rd_of_cells {w : World} {g o : Nat} {zs : List Int} (h : ∀ j, j < zs.length → w.cell? ⟨g, o + j, none⟩ = some (.int .u8 (zs.getD j 0))) : Rd w (some ⟨g, o, none⟩) zs :=
  fun j hj => ⟨_, rfl, by rw [Addr.add_lit]; exact h j hj⟩

theorem ownsRow_base {w : World} {B B' : Nat} {e : TypeId} {size : Nat} {v : Value} {n : Nat} {xs : List Value} (h : w.ownsRow B e size v n xs) (hB : B' ≤ B) : w.ownsRow B' e size v n xs := by
  refine ⟨h.1, ?_⟩
  rcases h.2 with h | ⟨g, cap, cur, hv, hg, r⟩
  · exact .inl h
  · exact .inr ⟨g, cap, cur, hv, by omega, r⟩

/-- What appendString is handed: a slice of the call's own, or one without spare room, wherever it lies. -/
def Src (B : Nat) (v : Value) (zs : List Int) (W0 w : World) : Prop :=
  OwnB B v zs W0 w ∨ ∃ ao, v = .slice ao zs.length zs.length ∧ Rd w ao zs ∧ (ao = none → zs.length = 0) ∧ Below B W0 w ∧ B ≤ w.heap.size

section
variable {P : Program}

/-- THE RUN: the new bytes lie in the block that was laid last. -/
theorem run_app {B : Nat} (t ty : TypeId) (i : TypeInfo) (ht : P.underlying t = some (.slice 5)) (hi : P.info? 5 = some i) (hz : i.zero = some (.int .u8 0)) (hsize : i.size = 1) (hby : i.bytes = 1)
    (v : Value) (zs : List Int) (W0 w0 : World) (hb : Src B v zs W0 w0) (news : List Int) (hne : 0 < news.length) (cs : Array Value) (hcs : cs = (u8s news).toArray) (hlen : zs.length + news.length ≤ 140737488355328) :
    ∃ v' w', (Builtin.append_ #[t, t] ty #[v, .slice (some ⟨w0.heap.size, 0, none⟩) news.length news.length]).run P (w0.alloc (.cells cs 5)) = .ok v' w' ∧ OwnB B v' (zs ++ news) W0 w' := by
  subst hcs
  have hnews : ∀ j u, (u8s news)[j]? = some u → (w0.alloc (.cells (u8s news).toArray 5)).cell? ((⟨w0.heap.size, 0, none⟩ : Addr).add j) = some u := by
    intro j u hj
    rw [Addr.add_lit, Nat.zero_add, cell_of_row _ w0.heap.size j (u8s news).toArray 5 (0, 0) (heap_alloc_new w0 _)]
    simpa using hj
  have h1c : ∀ u ∈ u8s news, u.oneCell' = true := ints_oneCell _ _
  have hl : (u8s news).length = news.length * 1 := by rw [u8s_len]; omega
  rcases hb with hb | ⟨ao, rfl, hrd, hnone, hbl, hB⟩
  · have hb' := hb.alloc (.cells (u8s news).toArray 5)
    obtain ⟨v', w', hr, h2, h3, _⟩ := run_append_own (P := P) (w0.alloc (.cells (u8s news).toArray 5)) B t ty 5 i (.int .u8 0) 1 1 ht hi hz hsize hby rfl (by decide) v zs.length (u8s zs) hb'.1 ⟨w0.heap.size, 0, none⟩ news.length news.length (u8s news) hl hnews h1c (by unfold maxLen; omega) (by omega) hb'.2.2
    refine ⟨v', w', hr, hb'.grown ?_ h3⟩
    rw [u8s_append, List.length_append]; exact h2
  · have hbl' := hbl.alloc hB (.cells (u8s news).toArray 5)
    have hsz : w0.heap.size ≤ (w0.alloc (.cells (u8s news).toArray 5)).heap.size := ((Below.refl 0 w0).alloc (Nat.zero_le _) _).size
    have hcl : ∀ b, ao = some b → ∀ j u, (u8s zs)[j]? = some u → (w0.alloc (.cells (u8s news).toArray 5)).cell? (b.add j) = some u := by
      intro b hbb j u hj
      have hjl : j < zs.length := by have := (List.getElem?_eq_some_iff.1 hj).1; rwa [u8s_len] at this
      have hk := hrd.kept ((Below.refl w0.heap.size w0).alloc (Nat.le_refl _) (.cells (u8s news).toArray 5)) j hjl
      obtain ⟨x, hx, hc⟩ := hk
      rw [hbb] at hx
      obtain rfl := Option.some.inj hx
      rw [hc, ← hj, u8s_get zs j hjl]
    have key : ∃ v' w', (Builtin.append_ #[t, t] ty #[.slice ao zs.length zs.length, .slice (some ⟨w0.heap.size, 0, none⟩) news.length news.length]).run P (w0.alloc (.cells (u8s news).toArray 5)) = .ok v' w' ∧
        w'.ownsRow (w0.alloc (.cells (u8s news).toArray 5)).heap.size 5 1 v' (zs.length + news.length) (u8s zs ++ u8s news) ∧ (w0.alloc (.cells (u8s news).toArray 5)).grownBy w' none := by
      cases ao with
      | some b =>
        exact run_append_arg_grows (P := P) (w0.alloc (.cells (u8s news).toArray 5)) t ty 5 i (.int .u8 0) 1 1 ht hi hz hsize hby rfl (by decide) b zs.length zs.length (u8s zs) (by rw [u8s_len]; omega) (hcl b rfl) ⟨w0.heap.size, 0, none⟩ news.length news.length (u8s news) hl hnews (by omega) (by unfold maxLen; omega) (by omega)
      | none =>
        have h0 := hnone rfl
        obtain rfl : zs = [] := List.eq_nil_of_length_eq_zero h0
        obtain ⟨v', w', hr, h2, h3, _⟩ := run_append_own (P := P) (w0.alloc (.cells (u8s news).toArray 5)) (w0.alloc (.cells (u8s news).toArray 5)).heap.size t ty 5 i (.int .u8 0) 1 1 ht hi hz hsize hby rfl (by decide) (.slice none 0 0) 0 [] (World.ownsRow_nil _ _ 5 1) ⟨w0.heap.size, 0, none⟩ news.length news.length (u8s news) hl hnews h1c (by unfold maxLen; omega) (by simp at hlen; omega) (Nat.le_refl _)
        exact ⟨v', w', hr, h2, h3⟩
    obtain ⟨v', w', hr, h2, h3⟩ := key
    refine ⟨v', w', hr, ?_, ?_, ?_⟩
    · rw [u8s_append, List.length_append]; exact ownsRow_base h2 (by omega)
    · exact hbl'.grown h3 (by omega) (fun k hk => by cases hk)
    · exact Nat.le_trans (Nat.le_trans hB hsz) h3.size

theorem wp_app {B : Nat} {ops : Array Oper} {rest : List Oper} {o : Oper} {a : Act} {Q : Exit → Act → World → Prop} (hgd : o.guard = none) (s x : Operand) (t : TypeId)
    (ho : o.op = .call { callee := .builtin .append, args := #[s, x], argTypes := #[t, t] })
    (i : TypeInfo) (ht : P.underlying t = some (.slice 5)) (hi : P.info? 5 = some i) (hz : i.zero = some (.int .u8 0)) (hsize : i.size = 1) (hby : i.bytes = 1)
    (v : Value) (zs : List Int) (hs : a.eval s = v) (W0 w0 : World) (hb : Src B v zs W0 w0) (news : List Int) (hne : 0 < news.length) (m : Nat) (hm : m = news.length)
    (hx : a.eval x = .slice (some ⟨w0.heap.size, 0, none⟩) m m) (cs : Array Value) (hcs : cs = (u8s news).toArray) (hlen : zs.length + news.length ≤ 140737488355328)
    (h : ∀ v' w', OwnB B v' (zs ++ news) W0 w' → wpList P ops Q rest (a.put o.dst v') w') : wpList P ops Q (o :: rest) a (w0.alloc (.cells cs 5)) := by
  subst hm
  refine wpList_plain hgd fun K hK => ?_
  obtain ⟨v', w', hr, h2⟩ := run_app (P := P) t o.type i ht hi hz hsize hby v zs W0 w0 hb news hne cs hcs hlen
  unfold Oper.wp execOp
  simp only [ho, resolve, invoke, builtin, Sem.run_bind, Sem.run_pure, Result.andThen_ok, List.map_toArray, List.map_cons, List.map_nil, hs, hx, hr]
  exact hK _ _ (h v' w' h2)

theorem step_app {B : Nat} {ops : Array Oper} {o : Oper} {a : Act} {K : Act → World → Prop} {Q : Exit → Act → World → Prop} {E : Prop} (hgd : o.guard = none) (s x : Operand) (t : TypeId)
    (ho : o.op = .call { callee := .builtin .append, args := #[s, x], argTypes := #[t, t] })
    (i : TypeInfo) (ht : P.underlying t = some (.slice 5)) (hi : P.info? 5 = some i) (hz : i.zero = some (.int .u8 0)) (hsize : i.size = 1) (hby : i.bytes = 1)
    (v : Value) (zs : List Int) (hs : a.eval s = v) (W0 w w0 : World) (cs : Array Value) (hw : w = w0.alloc (.cells cs 5)) (hb : Src B v zs W0 w0) (news : List Int) (hne : 0 < news.length) (m : Nat) (hm : m = news.length)
    (hx : a.eval x = .slice (some ⟨w0.heap.size, 0, none⟩) m m) (hcs : cs = (u8s news).toArray) (hlen : zs.length + news.length ≤ 140737488355328)
    (h : ∀ v' w', OwnB B v' (zs ++ news) W0 w' → K (a.put o.dst v') w') :
    if Region.wanted o (yielded ops a.tmps) = true then Oper.wp P o a w K Q else E := by
  have hwt : Region.wanted o (yielded ops a.tmps) = true := by simp [Region.wanted, hgd]
  rw [if_pos hwt]
  subst hm
  subst hw
  obtain ⟨v', w', hr, h2⟩ := run_app (P := P) t o.type i ht hi hz hsize hby v zs W0 w0 hb news hne cs hcs hlen
  unfold Oper.wp execOp
  simp only [ho, resolve, invoke, builtin, Sem.run_bind, Sem.run_pure, Result.andThen_ok, List.map_toArray, List.map_cons, List.map_nil, hs, hx, hr]
  exact h v' w' h2

theorem strCells_nums (s : ByteArray) : Lib.strCells s = u8s (nums s) := by
  simp [Lib.strCells, u8s, nums]

theorem wp_app_str {B : Nat} {w : World} {ops : Array Oper} {rest : List Oper} {o : Oper} {a : Act} {Q : Exit → Act → World → Prop} (hgd : o.guard = none) (sl x : Operand) (t u : TypeId)
    (ho : o.op = .call { callee := .builtin .append, args := #[sl, x], argTypes := #[t, u] })
    (i : TypeInfo) (ht : P.underlying t = some (.slice 5)) (hu : P.underlying u = some .string) (hi : P.info? 5 = some i) (hz : i.zero = some (.int .u8 0)) (hsize : i.size = 1) (hby : i.bytes = 1)
    (v : Value) (zs : List Int) (hs : a.eval sl = v) (W0 : World) (hb : OwnB B v zs W0 w) (s : ByteArray) (hx : a.eval x = .string s) (news : List Int) (hnews : news = nums s) (hlen : zs.length + news.length ≤ 140737488355328)
    (h : ∀ v' w', OwnB B v' (zs ++ news) W0 w' → wpList P ops Q rest (a.put o.dst v') w') : wpList P ops Q (o :: rest) a w := by
  subst hnews
  rw [nums_len] at hlen
  refine Lib.wpList_append_own_string w hgd sl x t u ho B 5 i ht hu hi hz hsize hby v zs.length (u8s zs) hs hb.1 s hx (by unfold maxLen; omega) hlen hb.2.2 ?_
  intro v' w' ho' hg _
  refine h v' w' (hb.grown ?_ hg)
  rw [u8s_append, List.length_append, nums_len, ← strCells_nums]
  exact ho'

end
end Go.Proofs.Qxb6603783aDoor
