/-
  LAWS AND SMALL WALKS for AppendFields: a string appended to a slice without spare room; strconv.AppendUint, AppendBool.
-/
import Derived.Test.Qxb6603783aDoorErr
import Derived.Test.Qxb6603783aDoorRoundLaw
import Derived.Test.Qxb6603783aDoorAppend
namespace Go.Proofs.Qxb6603783aDoor
open Go.RowKit

theorem OwnB.rebase {B : Nat} {v : Value} {zs : List Int} {W0 w : World} (h : OwnB B v zs W0 w) : OwnB B v zs w w := ⟨h.1, Below.refl _ _, h.2.2⟩
theorem OwnB.onto {B : Nat} {v v' : Value} {zs zs' : List Int} {W0 w w' : World} (h : OwnB B v zs W0 w) (h' : OwnB B v' zs' w w') : OwnB B v' zs' W0 w' := ⟨h'.1, h.2.1.trans h'.2.1, h'.2.2⟩

section
variable {P : Program}
/-- 'append(b, "..."...)' where b has no spare room: a new row. -/
theorem run_appstr_tight (t u ty : TypeId) (i : TypeInfo) (ht : P.underlying t = some (.slice 5)) (hu : P.underlying u = some .string) (hi : P.info? 5 = some i) (hz : i.zero = some (.int .u8 0)) (hsize : i.size = 1) (hby : i.bytes = 1)
    (ao : Option Addr) (zs : List Int) (w : World) (hrd : Rd w ao zs) (hnone : ao = none → zs.length = 0) (s : ByteArray) (hs : 0 < s.size) (hlen : zs.length + s.size ≤ 140737488355328) :
    ∃ v' w', (Builtin.append_ #[t, u] ty #[.slice ao zs.length zs.length, .string s]).run P w = .ok v' w' ∧ OwnB w.heap.size v' (zs ++ nums s) w w' := by
  cases ao with
  | none =>
    have h0 := hnone rfl
    obtain rfl : zs = [] := List.eq_nil_of_length_eq_zero h0
    obtain ⟨v', w', hr, h2, h3, _⟩ := Lib.run_append_own_string (P := P) w w.heap.size t u ty 5 i ht hu hi hz hsize hby (.slice none 0 0) 0 [] (World.ownsRow_nil _ _ 5 1) s (by unfold maxLen; simp at hlen; omega) (by simp at hlen; omega) (Nat.le_refl _)
    refine ⟨v', w', hr, ?_, (Below.refl _ _).grown h3 (Nat.le_refl _) (fun k hk => by cases hk), h3.size⟩
    rw [List.nil_append, nums_len, ← strCells_nums]
    rw [Nat.zero_add, List.nil_append] at h2
    exact h2
  | some b =>
    have hcl : ∀ j v, (u8s zs)[j]? = some v → w.cell? (b.add j) = some v := by
      intro j v hj
      have hjl : j < zs.length := by have := (List.getElem?_eq_some_iff.1 hj).1; rwa [u8s_len] at this
      obtain ⟨x, hx, hc⟩ := hrd j hjl
      obtain rfl := Option.some.inj hx
      rw [hc, ← hj, u8s_get zs j hjl]
    have hr := Lib.run_append_grow_string (P := P) w t u ty 5 i (.int .u8 0) ht hu hi hz b zs.length zs.length (u8s zs) (by rw [u8s_len, hsize]; omega) hcl s (by omega) (by omega) (by rw [hby]; exact growslice_fits (by omega) (by omega))
    have hge := grownCap_ge w (zs.length + s.size) zs.length 5
    have hcm : grownCap w (zs.length + s.size) zs.length 5 ≤ maxLen := grownCap_le_maxLen w (zs.length + s.size) zs.length 5 (by unfold maxLen; omega)
    refine ⟨_, _, hr, ⟨?_, .inr ⟨w.heap.size, _, _, ?_, Nat.le_refl _, heap_alloc_new w.drew _, ?_, hcm, ?_, ?_⟩⟩, (Below.refl w.heap.size w).drew.alloc (Nat.le_refl _) _, ?_⟩
    · rw [u8s_len]; omega
    · rw [List.length_append, nums_len]
    · rw [List.length_append, nums_len]; exact hge
    · have hz1 : (Value.int IntKind.u8 0).cells.size = 1 := rfl
      simp only [Array.size_append, List.size_toArray, size_zeroCells, hz1, u8s_len, Lib.strCells_length]
      omega
    · simp only [Array.toList_append, List.append_assoc]
      rw [← List.append_assoc, u8s_append, ← strCells_nums]
      have hl : (zs ++ nums s).length * 1 = (u8s zs ++ Lib.strCells s).length := by
        rw [List.length_append, List.length_append, u8s_len, Lib.strCells_length, nums_len]; omega
      rw [hl]
      exact List.take_left
    · simp
theorem wp_appstr_tight {w : World} {ops : Array Oper} {rest : List Oper} {o : Oper} {a : Act} {Q : Exit → Act → World → Prop} (hgd : o.guard = none) (sl x : Operand) (t u : TypeId)
    (ho : o.op = .call { callee := .builtin .append, args := #[sl, x], argTypes := #[t, u] })
    (i : TypeInfo) (ht : P.underlying t = some (.slice 5)) (hu : P.underlying u = some .string) (hi : P.info? 5 = some i) (hz : i.zero = some (.int .u8 0)) (hsize : i.size = 1) (hby : i.bytes = 1)
    (ao : Option Addr) (zs : List Int) (n : Nat) (hn : zs.length = n) (hs : a.eval sl = .slice ao n n) (hrd : Rd w ao zs) (hnone : ao = none → zs.length = 0) (s : ByteArray) (hx : a.eval x = .string s) (hs0 : 0 < s.size)
    (news : List Int) (hnews : news = nums s) (hlen : zs.length + s.size ≤ 140737488355328)
    (h : ∀ v' w', OwnB w.heap.size v' (zs ++ news) w w' → wpList P ops Q rest (a.put o.dst v') w') : wpList P ops Q (o :: rest) a w := by
  subst hn
  subst hnews
  refine wpList_plain hgd fun K hK => ?_
  obtain ⟨v', w', hr, h2⟩ := run_appstr_tight (P := P) t u o.type i ht hu hi hz hsize hby ao zs w hrd hnone s hs0 hlen
  unfold Oper.wp execOp
  simp only [ho, resolve, invoke, builtin, Sem.run_bind, Sem.run_pure, Result.andThen_ok, List.map_toArray, List.map_cons, List.map_nil, hs, hx, hr]
  exact hK _ _ (h v' w' h2)
end

theorem dgo_dec (f v : Nat) (acc : List Int) (h : v < 10 ^ f) (hf : 0 < f) : dgo f v acc = (Lib.decDigits v).map (fun b => (b.toNat : Int)) ++ acc := by
  induction f generalizing v acc with
  | zero => omega
  | succ f ih =>
    have hone : ∀ r : Nat, r < 10 → ((UInt8.ofNat (48 + r)).toNat : Int) = 48 + (r : Int) := by
      intro r hr
      simp only [UInt8.toNat_ofNat']
      omega
    unfold dgo
    split
    · rename_i h0
      have hv : v < 10 := by omega
      rw [Lib.decDigits_one hv, show v % 10 = v by omega]
      simp only [List.map_cons, List.map_nil, List.cons_append, List.nil_append]
      rw [hone v hv]
    · rename_i h0
      have hf' : 0 < f := by
        rcases Nat.eq_zero_or_pos f with rfl | h'
        · simp at h; omega
        · exact h'
      rw [ih (v / 10) _ (by rw [Nat.pow_succ] at h; omega) hf']
      have e : Lib.decDigits v = Lib.decDigits (v / 10) ++ [UInt8.ofNat (48 + v % 10)] := by
        conv => lhs; unfold Lib.decDigits
        rw [dif_neg (by omega)]
      rw [e, List.map_append, List.append_assoc]
      simp only [List.map_cons, List.map_nil, List.cons_append, List.nil_append]
      rw [hone (v % 10) (by omega)]
theorem utoa_dec (v : Nat) (h : v < 18446744073709551616) : u8s (utoa v) = Lib.byteCells (Lib.decDigits v) ∧ (utoa v).length = (Lib.decDigits v).length := by
  have e : utoa v = (Lib.decDigits v).map (fun b => (b.toNat : Int)) := by
    have := dgo_dec 20 v [] (Nat.lt_of_lt_of_le h (by decide)) (by decide)
    simpa [utoa] using this
  constructor
  · rw [e]; simp [u8s, Lib.byteCells]
  · rw [e]; simp

theorem appu_any (B : Nat) (v : Value) (zs : List Int) (u : Nat) (w : World) (hu : u < 18446744073709551616) (hb : OwnB B v zs w w) (hlen : zs.length + 20 ≤ 140737488355328) (ht : Tab w) :
    Calls Tryd.prog 21 #[v, .int .u64 u, .int .i64 10] w fun e w' => ∃ v', e = .returned v' ∧ OwnB B v' (zs ++ utoa u) w w' := by
  have hc := appuint_any B zs.length u hu v (u8s zs) w hb.1 hb.2.2 hlen ht
  have HS := hid hb.2.2
  clear hb ht
  go_enter Tryd.func21, Tryd.ntmps21
  go_wp2_with fail
  refine hc.mono ?_
  rintro e w1 ⟨v', rfl, h1, h2⟩
  have hE := utoa_dec u hu
  have ho : OwnB B v' (zs ++ utoa u) w w1 := by
    refine ⟨?_, h2, Nat.le_trans HS.out h2.size⟩
    rw [u8s_append, List.length_append, hE.1, hE.2]
    exact h1
  have HO := hid ho
  clear h1 h2 ho hE
  go_wp2
  go_ret
  exact ⟨_, rfl, HO.out⟩

/-- What AppendBool writes. -/
def boolText (b : Bool) : List Int := if b then [116, 114, 117, 101] else [102, 97, 108, 115, 101]
theorem appb_any (B : Nat) (v : Value) (zs : List Int) (b : Bool) (w : World) (hb : OwnB B v zs w w) (hlen : zs.length + 20 ≤ 140737488355328) :
    Calls Tryd.prog 22 #[v, .bool b] w fun e w' => ∃ v', e = .returned v' ∧ OwnB B v' (zs ++ boolText b) w w' := by
  obtain ⟨i0, hi, hz0, hz1, hz2⟩ := info_parts info5
  cases b
  · go_enter Tryd.func22, Tryd.ntmps22
    go_wp2_with (first | (at_builtin; refine wp_app_str rfl (.tmp 8) _ 22 9 rfl i0 Tryd.underlying22 Tryd.underlying9 hi hz0 hz1 hz2 _ zs rfl w hb _ rfl [102, 97, 108, 115, 101] rfl (by simp; omega) ?_) | go_in)
    intro v2 w2 hb2
    go_wp2
    go_ret
    exact ⟨_, rfl, hb2⟩
  · go_enter Tryd.func22, Tryd.ntmps22
    go_wp2_with (first | (at_builtin; refine wp_app_str rfl (.tmp 6) _ 22 9 rfl i0 Tryd.underlying22 Tryd.underlying9 hi hz0 hz1 hz2 _ zs rfl w hb _ rfl [116, 114, 117, 101] rfl (by simp; omega) ?_) | go_in)
    intro v2 w2 hb2
    go_wp2
    go_ret
    exact ⟨_, rfl, hb2⟩
end Go.Proofs.Qxb6603783aDoor
