/-
  WALK: FnDocAppendFieldsReadBack.
-/
import Derived.Test.Qxb6603783aDoorFields
import Derived.Test.Qxb6603783aDoorRead
import Derived.Test.Qxb6603783aDoorCmp
namespace Go.Proofs.Qxb6603783aDoor
open Go.RowKit

theorem encB_bytes (c : Int) (h : 0 ≤ c ∧ c ≤ 255) : Bytes (encB c) := by
  have hh : ∀ n : Int, 0 ≤ n → n ≤ 15 → 0 ≤ hexd n ∧ hexd n ≤ 255 := by
    intro n h0 h1
    rcases hexd_cases n h0 h1 with ⟨_, _, _, _⟩ | ⟨_, _, _, _⟩ <;> omega
  intro x hx
  unfold encB at hx
  by_cases h1 : c = 34 ∨ c = 92
  · rw [if_pos h1] at hx; simp at hx; omega
  rw [if_neg h1] at hx
  by_cases h2 : c = 10
  · rw [if_pos h2] at hx; simp at hx; omega
  rw [if_neg h2] at hx
  by_cases h3 : c = 13
  · rw [if_pos h3] at hx; simp at hx; omega
  rw [if_neg h3] at hx
  by_cases h4 : c = 9
  · rw [if_pos h4] at hx; simp at hx; omega
  rw [if_neg h4] at hx
  by_cases h5 : c < 32
  · rw [if_pos h5] at hx
    have a := hh (c / 16) (by omega) (by omega)
    have b := hh (c % 16) (by omega) (by omega)
    simp at hx
    rcases hx with rfl | rfl | rfl | rfl | rfl <;> omega
  · rw [if_neg h5] at hx; simp at hx; omega
theorem Bytes.app {x y : List Int} (hx : Bytes x) (hy : Bytes y) : Bytes (x ++ y) := by
  intro c hc
  rcases List.mem_append.1 hc with h | h
  · exact hx c h
  · exact hy c h
theorem encStr_bytes (l : List Int) (h : Bytes l) : Bytes (encStr l) := by
  have hb : Bytes (encBody l) := by
    intro c hc
    obtain ⟨d, hd, hc⟩ := List.mem_flatMap.1 hc
    exact encB_bytes d (h d hd) c hc
  intro c hc
  unfold encStr at hc
  rcases List.mem_cons.1 hc with rfl | hc
  · omega
  · exact (hb.app (fun x hx => by simp at hx; omega)) c hc
theorem utoa_bytes (v : Nat) : Bytes (utoa v) := fun c hc => by have := utoa_dig v c hc; omega

/-- One number is cut off the end. -/
theorem cut_one (g cap : Nat) (Y N : List Int) (v : Nat) (b : Int) (name : ByteArray) (LZ LY : Nat) (w : World) (hN : nums name = N) (hLY : Y.length = LY) (hLZ : (Y ++ N ++ utoa v).length = LZ) (hcap : LZ ≤ cap) (hmax : LZ ≤ 140737488355328)
    (hrd : Rd w (some ⟨g, 0, none⟩) (Y ++ N ++ utoa v)) (hb : Bytes (Y ++ N ++ utoa v)) (hv : v < 18446744073709551616) (h0 : 0 ≤ b) (h1 : b ≤ 64) (hle : (v : Int) ≤ mxOf b)
    (hX : Y ++ N = [] ∨ isDig ((Y ++ N).getD ((Y ++ N).length - 1) 0) = false) :
    Calls Tryd.prog 10 #[.slice (some ⟨g, 0, none⟩) LZ cap, .string name, .int .i64 b] w fun e w' => Below w.heap.size w w' ∧ e = .returned (.tuple #[.slice (some ⟨g, 0, none⟩) LY cap, .int .u64 v, .bool true]) := by
  obtain ⟨p1, p2, p3, p4, p5, p6⟩ := round_plain Y N v b hv h0 h1 hle hX
  have hul := utoa_len v
  have hli : (Y ++ N).length = LY + name.size := by rw [List.length_append, ← hN, nums_len, hLY]
  rw [hli] at p1 p2 p3
  have hLZ' : LZ = LY + name.size + (utoa v).length := by rw [← hLZ, List.length_append, hli]
  have hget : (Y ++ N ++ utoa v).getD (LY + name.size) 0 = (utoa v).getD 0 0 := by
    rw [List.getD_eq_getElem?_getD, List.getElem?_append_right (by omega), hli, Nat.sub_self, List.getD_eq_getElem?_getD]
  have hcut := cutnum_yes (some ⟨g, 0, none⟩) LZ cap (Y ++ N ++ utoa v) name b w hLZ hrd hb hcap hmax (LY + name.size) p1 (by omega)
    (by
      rw [hget]
      rcases utoa_head v hv with h | h
      · left; omega
      · exact .inr h)
    (by rw [p2]; exact pu_ok b (utoa v) w h0 h1 (by omega) (utoa_dig v) (by omega) (by rw [utoa_dv v hv]; exact hle))
    true (by rw [p3, hN]; exact p4) LY (by simp) (v : Int) (by rw [p2]; exact p5) true (by rw [p2]; exact p6)
  exact zzcut_any _ name b w _ _ _ (Below w.heap.size w) hcut

theorem samestr_yes (a : Option Addr) (n c : Nat) (xs : List Int) (s : ByteArray) (w : World) (hn : xs.length = n) (hx : Rd w a xs) (hmax : n ≤ 140737488355328) (hms : s.size ≤ 140737488355328) (he : xs = nums s) :
    Calls Tryd.prog 9 #[.slice a n c, .string s] w fun e w' => e = .returned (.bool true) ∧ Below w.heap.size w w' := by
  refine (samestr_any a n c xs s w hn hx hmax hms).mono ?_
  rintro e w' ⟨rfl, hb⟩
  exact ⟨by rw [decide_eq_true he], hb⟩

theorem zzb_back_yes (a : Option Addr) (n c : Nat) (s : ByteArray) (a2 : Option Addr) (n2 c2 : Nat) (x y z u : Int) (d : Bool) (w : World) (h : n + s.size + n2 ≤ 1048576) :
    Calls Tryd.prog 6 #[.slice a n c, .string s, .slice a2 n2 c2, .int .u64 x, .int .u64 y, .int .u32 z, .int .u32 u, .bool d] w fun e w' => e = .returned (.bool true) ∧ w' = w := by
  go_enter Tryd.func6, Tryd.ntmps6
  go_wp2
  go_ret
  exact ⟨rfl, rfl⟩

theorem zzb_back_no (a : Option Addr) (n c : Nat) (s : ByteArray) (a2 : Option Addr) (n2 c2 : Nat) (x y z u : Int) (d : Bool) (w : World) (h : ¬ n + s.size + n2 ≤ 1048576) (hn : n ≤ 9223372036854775807) (hs : s.size ≤ 9223372036854775807) (hn2 : n2 ≤ 9223372036854775807) :
    Calls Tryd.prog 6 #[.slice a n c, .string s, .slice a2 n2 c2, .int .u64 x, .int .u64 y, .int .u32 z, .int .u32 u, .bool d] w fun e w' => e = .returned (.bool false) ∧ w' = w := by
  by_cases h1 : n ≤ 1048576
  · by_cases h2 : s.size ≤ 1048576
    · by_cases h3 : n + s.size ≤ 1048576
      · by_cases h4 : n2 ≤ 1048576
        · go_enter Tryd.func6, Tryd.ntmps6
          go_wp2
          go_ret
          exact ⟨rfl, rfl⟩
        · go_enter Tryd.func6, Tryd.ntmps6
          go_wp2
          go_ret
          exact ⟨rfl, rfl⟩
      · go_enter Tryd.func6, Tryd.ntmps6
        go_wp2
        go_ret
        exact ⟨rfl, rfl⟩
    · go_enter Tryd.func6, Tryd.ntmps6
      go_wp2
      go_ret
      exact ⟨rfl, rfl⟩
  · go_enter Tryd.func6, Tryd.ntmps6
    go_wp2
    go_ret
    exact ⟨rfl, rfl⟩
end Go.Proofs.Qxb6603783aDoor
