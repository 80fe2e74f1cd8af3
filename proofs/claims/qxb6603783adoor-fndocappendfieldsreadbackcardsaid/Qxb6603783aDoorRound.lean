/-
  WALK: FnDocCutNumberSuffixRoundTrip.
-/
import Derived.Test.Qxb6603783aDoorCutNum
import Derived.Laws.AppendOwnNone
namespace Go.Proofs.Qxb6603783aDoor
open Go.RowKit

section
variable {P : Program}
/-- 'append(in, p...)', in the call's own, p any slice of bytes. -/
theorem wp_app_rd {B : Nat} {w : World} {ops : Array Oper} {rest : List Oper} {o : Oper} {a : Act} {Q : Exit → Act → World → Prop} (hgd : o.guard = none) (s x : Operand) (t : TypeId)
    (ho : o.op = .call { callee := .builtin .append, args := #[s, x], argTypes := #[t, t] })
    (i : TypeInfo) (ht : P.underlying t = some (.slice 5)) (hi : P.info? 5 = some i) (hz : i.zero = some (.int .u8 0)) (hsize : i.size = 1) (hby : i.bytes = 1)
    (v : Value) (zs : List Int) (hs : a.eval s = v) (W0 : World) (hb : OwnB B v zs W0 w) (ao : Option Addr) (m c : Nat) (hx : a.eval x = .slice ao m c) (news : List Int) (hm : news.length = m) (hrd : Rd w ao news) (hnone : ao = none → m = 0 ∧ c = 0)
    (hlen : zs.length + news.length ≤ 140737488355328)
    (h : ∀ v' w', OwnB B v' (zs ++ news) W0 w' → wpList P ops Q rest (a.put o.dst v') w') : wpList P ops Q (o :: rest) a w := by
  cases ao with
  | none =>
    obtain ⟨rfl, rfl⟩ := hnone rfl
    obtain rfl : news = [] := List.eq_nil_of_length_eq_zero hm
    refine wpList_append_own_none hgd s x t ho B 5 i 1 ht hi v zs.length (u8s zs) hs hb.1 hx ?_
    exact h v w (by rw [List.append_nil]; exact hb)
  | some ad =>
    subst hm
    have hcell : ∀ j u, (u8s news)[j]? = some u → w.cell? (ad.add j) = some u := by
      intro j u hj
      have hjl : j < news.length := by have := (List.getElem?_eq_some_iff.1 hj).1; rwa [u8s_len] at this
      obtain ⟨y, hy, hc⟩ := hrd j hjl
      obtain rfl := Option.some.inj hy
      rw [hc, ← hj, u8s_get news j hjl]
    refine wpList_append_own w hgd s x t ho B 5 i (.int .u8 0) 1 1 ht hi hz hsize hby rfl (by decide) v zs.length (u8s zs) hs hb.1 ad news.length c (u8s news) hx (by rw [u8s_len]; omega) hcell (ints_oneCell _ _) (by unfold maxLen; omega) (by omega) hb.2.2 ?_
    intro v' w' h2 h3 _
    refine h v' w' (hb.grown ?_ h3)
    rw [u8s_append, List.length_append]; exact h2
end

theorem zzb_round_yes (a : Option Addr) (n c : Nat) (s : ByteArray) (x b : Int) (w : World) (h : n + s.size ≤ 1048576) :
    Calls Tryd.prog 19 #[.slice a n c, .string s, .int .u64 x, .int .i64 b] w fun e w' => e = .returned (.bool true) ∧ w' = w := by
  go_enter Tryd.func19, Tryd.ntmps19
  go_wp2
  go_ret
  exact ⟨rfl, rfl⟩

theorem zzb_round_no (a : Option Addr) (n c : Nat) (s : ByteArray) (x b : Int) (w : World) (h : ¬ n + s.size ≤ 1048576) (hn : n ≤ 9223372036854775807) (hs : s.size ≤ 9223372036854775807) :
    Calls Tryd.prog 19 #[.slice a n c, .string s, .int .u64 x, .int .i64 b] w fun e w' => e = .returned (.bool false) ∧ w' = w := by
  by_cases h1 : n ≤ 1048576
  · by_cases h2 : s.size ≤ 1048576
    · go_enter Tryd.func19, Tryd.ntmps19
      go_wp2
      go_ret
      exact ⟨rfl, rfl⟩
    · go_enter Tryd.func19, Tryd.ntmps19
      go_wp2
      go_ret
      exact ⟨rfl, rfl⟩
  · go_enter Tryd.func19, Tryd.ntmps19
    go_wp2
    go_ret
    exact ⟨rfl, rfl⟩

/-- ZZcutNumberSuffix hands on. -/
theorem zzcut_any (v : Value) (name : ByteArray) (b : Int) (w : World) (r : Value) (x : Int) (k : Bool) (R : World → Prop)
    (h : Calls Tryd.prog 23 #[v, .string name, .int .i64 b] w fun e w' => R w' ∧ e = .returned (.tuple #[r, .int .u64 x, .bool k])) :
    Calls Tryd.prog 10 #[v, .string name, .int .i64 b] w fun e w' => R w' ∧ e = .returned (.tuple #[r, .int .u64 x, .bool k]) := by
  go_enter Tryd.func10, Tryd.ntmps10
  go_wp2_with fail
  refine h.mono ?_
  rintro e w' ⟨hR, rfl⟩
  go_wp2
  go_ret3
  exact ⟨hR, rfl⟩

theorem same_yes (a b : Option Addr) (n c m d : Nat) (zs : List Int) (w : World) (hn : zs.length = n) (hm : zs.length = m) (hx : Rd w a zs) (hy : Rd w b zs) (hmax : n ≤ 140737488355328) :
    Calls Tryd.prog 11 #[.slice a n c, .slice b m d] w fun e w' => e = .returned (.bool true) ∧ Below w.heap.size w w' := by
  refine (same_any a b n c m d zs zs w hn hm hx hy hmax).mono ?_
  rintro e w' ⟨rfl, q, rfl⟩
  exact ⟨by simp, ⟨rfl, rfl, rfl, Nat.le_refl _, fun _ _ => rfl⟩⟩

/-- The plain law: p, then name, then n in decimal. -/
theorem round_plain (zp N : List Int) (n : Nat) (b : Int) (hn : n < 18446744073709551616) (h0 : 0 ≤ b) (h1 : b ≤ 64) (hle : (n : Int) ≤ mxOf b) (hX : zp ++ N = [] ∨ isDig ((zp ++ N).getD ((zp ++ N).length - 1) 0) = false) :
    cutAt (zp ++ N ++ utoa n) = (zp ++ N).length ∧ (zp ++ N ++ utoa n).drop (zp ++ N).length = utoa n ∧ (zp ++ N ++ utoa n).take (zp ++ N).length = zp ++ N ∧ endsB (zp ++ N) N = true ∧
    puVal b (utoa n) = (n : Int) ∧ puOk b (utoa n) = true := by
  refine ⟨cutAt_join _ _ (utoa_dig n) hX, List.drop_left, List.take_left, ?_, ?_, ?_⟩
  · unfold endsB
    rw [decide_eq_true (by simp), Bool.true_and, decide_eq_true_iff, List.length_append, Nat.add_sub_cancel, List.drop_left]
  · unfold puVal
    rw [if_neg (by omega), utoa_dv n hn, if_pos hle]
  · unfold puOk
    rw [utoa_dv n hn]
    exact decide_eq_true ⟨h0, h1, hle⟩

end Go.Proofs.Qxb6603783aDoor
