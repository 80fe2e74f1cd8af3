/-
  WALKS: bytes.Equal, HasSuffix, CutSuffix; cutNumberSuffix.
-/
import Derived.Test.Qxb6603783aDoorParse
namespace Go.Proofs.Qxb6603783aDoor
open Go.RowKit

def Bytes (l : List Int) : Prop := ∀ c ∈ l, 0 ≤ c ∧ c ≤ 255

/-- 'string(b)'. -/
theorem run_str_rd {P : Program} (w : World) (src dst : TypeId) (a : Option Addr) (n c : Nat) (xs : List Int) (hs : P.underlying src = some (.slice 5)) (he : P.underlying 5 = some (.int .u8)) (hd : P.underlying dst = some .string) (hn : xs.length = n) (hx : Rd w a xs) :
    (convert src dst (.slice a n c)).run P w = .ok (.string (strOfNums xs)) w := by
  by_cases h0 : n = 0
  · obtain rfl : xs = [] := List.eq_nil_of_length_eq_zero (hn.trans h0)
    subst h0
    cases a with
    | none => rw [run_convert_bytes_nil w src 5 hs he 0 c dst hd]; rfl
    | some x =>
      rw [run_convert_bytes_string w src dst 5 _ 0 c hs he hd, run_bytesToString w x 0 c [] (by simp [loadCells, loadCellsFrom])]
      rfl
  · obtain ⟨b, off, rfl, hc⟩ := hx.at (by omega)
    exact run_convert_bytes_arg w src 5 hs he b off n c xs hn (by rw [← hn]; exact hc) dst hd

theorem strOfNums_inj {xs ys : List Int} (hx : Bytes xs) (hy : Bytes ys) : strOfNums xs = strOfNums ys ↔ xs = ys := by
  constructor
  · intro h
    have h2 : xs.map (fun n => UInt8.ofNat n.toNat) = ys.map (fun n => UInt8.ofNat n.toNat) := by
      have := congrArg (fun s : ByteArray => s.data.toList) h
      simpa [strOfNums] using this
    clear h
    induction xs generalizing ys with
    | nil => cases ys with
      | nil => rfl
      | cons _ _ => simp at h2
    | cons a xs ih =>
      cases ys with
      | nil => simp at h2
      | cons b ys =>
        simp only [List.map_cons, List.cons.injEq] at h2
        have ha := hx a (by simp)
        have hb := hy b (by simp)
        have e1 : a.toNat = b.toNat := by
          have := congrArg UInt8.toNat h2.1
          simp only [UInt8.toNat_ofNat'] at this
          omega
        rw [show a = b by omega, ih (fun c hc => hx c (by simp [hc])) (fun c hc => hy c (by simp [hc])) h2.2]
  · rintro rfl; rfl

theorem eq_any (a b : Option Addr) (n c m d : Nat) (xs ys : List Int) (w : World) (hn : xs.length = n) (hm : ys.length = m) (hx : Rd w a xs) (hy : Rd w b ys) (hbx : Bytes xs) (hby : Bytes ys) :
    Calls Tryd.prog 47 #[.slice a n c, .slice b m d] w fun e w' => e = .returned (.bool (decide (xs = ys))) ∧ w' = w := by
  have e1 := run_str_rd (P := Tryd.prog) w 22 9 a n c xs Tryd.underlying22 Tryd.underlying5 Tryd.underlying9 hn hx
  have e2 := run_str_rd (P := Tryd.prog) w 22 9 b m d ys Tryd.underlying22 Tryd.underlying5 Tryd.underlying9 hm hy
  have hi := strOfNums_inj hbx hby
  generalize strOfNums xs = sx at e1 hi
  generalize strOfNums ys = sy at e2 hi
  have HI : Hid _ := hi
  clear hi hn hm hx hy hbx hby
  have hE : (sx.toList == sy.toList) = decide (xs = ys) := by
    rw [Bool.eq_iff_iff, beq_iff_eq, decide_eq_true_iff, ← HI.out]
    constructor
    · intro h
      rw [ByteArray.toList_eq, ByteArray.toList_eq] at h
      cases sx; cases sy
      simpa using h
    · rintro rfl; rfl
  go_enter Tryd.func47, Tryd.ntmps47
  go_wp2
  go_ret
  exact ⟨rfl, rfl⟩

theorem suffix_iff (xs ys : List Int) (h : ys.length ≤ xs.length) : xs.drop (xs.length - ys.length) = ys ↔ ys <:+ xs := by
  constructor
  · intro e; exact ⟨_, by rw [← e]; exact List.take_append_drop _ _⟩
  · rintro ⟨t, rfl⟩
    rw [List.length_append, Nat.add_sub_cancel, List.drop_left]

/-- Is ys the end of xs? -/
def endsB (xs ys : List Int) : Bool := decide (ys.length ≤ xs.length) && decide (xs.drop (xs.length - ys.length) = ys)

theorem Bytes.drop {l : List Int} (h : Bytes l) (k : Nat) : Bytes (l.drop k) := fun c hc => h c (List.mem_of_mem_drop hc)
theorem Bytes.take {l : List Int} (h : Bytes l) (k : Nat) : Bytes (l.take k) := fun c hc => h c (List.mem_of_mem_take hc)

/-- 'b[k:]' reads as what stands behind k. -/
theorem Rd.cut {w : World} {a : Option Addr} {n c k : Nat} {xs : List Int} (h : Rd w a xs) (hn : xs.length = n) (hnc : n ≤ c) (hk : k ≤ n) : Rd w (if c = k then a else a.map fun x => x.add k) (xs.drop k) := by
  intro j hj
  rw [List.length_drop] at hj
  rw [if_neg (by omega)]
  obtain ⟨x, hx, hc⟩ := h (k + j) (by omega)
  refine ⟨x.add k, by rw [hx]; rfl, ?_⟩
  rw [Addr.add_add, hc]
  simp [List.getD]

theorem has_any (a b : Option Addr) (n c m d : Nat) (xs ys : List Int) (w : World) (hn : xs.length = n) (hm : ys.length = m) (hx : Rd w a xs) (hy : Rd w b ys) (hbx : Bytes xs) (hby : Bytes ys) (hnc : n ≤ c) (hmax : n ≤ 140737488355328) :
    Calls Tryd.prog 35 #[.slice a n c, .slice b m d] w fun e w' => e = .returned (.bool (endsB xs ys)) ∧ w' = w := by
  by_cases hle : m ≤ n
  · have hE : endsB xs ys = decide (xs.drop (n - m) = ys) := by
      unfold endsB; rw [hn, hm, decide_eq_true hle, Bool.true_and]
    rw [hE]
    have hcut := hx.cut hn hnc (show n - m ≤ n by omega)
    have hle' : (m : Int) ≤ (n : Int) := by omega
    have hl : (xs.drop (n - m)).length = m := by rw [List.length_drop]; omega
    have HL : Hid _ := hl
    have HM : Hid _ := hm
    have hl2 : Hid ((xs.drop (n - m)).length = n - (n - m)) := by show _ = _; omega
    have hby' := hbx.drop (n - m)
    clear hE hl hn hm hx hbx
    go_enter Tryd.func35, Tryd.ntmps35
    go_wp2_with fail
    all_goals
      first | rw [if_pos ‹_›] at hcut | rw [if_neg ‹_›] at hcut
      refine (eq_any _ _ _ _ _ _ (xs.drop (n - m)) ys _ hl2.out HM.out hcut hy hby' hby).mono ?_
      rintro e w' ⟨rfl, rfl⟩
      go_wp2
      go_ret
      exact ⟨rfl, rfl⟩
  · have hE : endsB xs ys = false := by
      unfold endsB; rw [hn, hm, decide_eq_false hle, Bool.false_and]
    have hd : decide (m ≤ n) = false := decide_eq_false hle
    rw [hE]
    clear hn hm hx hy
    go_enter Tryd.func35, Tryd.ntmps35
    go_wp2
    go_ret
    exact ⟨rfl, rfl⟩

theorem cutsuf_any (a b : Option Addr) (n c m d : Nat) (xs ys : List Int) (w : World) (hn : xs.length = n) (hm : ys.length = m) (hx : Rd w a xs) (hy : Rd w b ys) (hbx : Bytes xs) (hby : Bytes ys) (hnc : n ≤ c) (hmax : n ≤ 140737488355328) :
    Calls Tryd.prog 28 #[.slice a n c, .slice b m d] w fun e w' => e = .returned (.tuple #[.slice a (if endsB xs ys = true then n - m else n) c, .bool (endsB xs ys)]) ∧ w' = w := by
  cases hE : endsB xs ys with
  | true =>
    have hle : m ≤ n := by
      unfold endsB at hE
      rw [hn, hm, Bool.and_eq_true, decide_eq_true_iff] at hE
      exact hE.1
    have hh := has_any a b n c m d xs ys w hn hm hx hy hbx hby hnc hmax
    rw [hE] at hh
    clear hE hn hm hx hy
    go_enter Tryd.func28, Tryd.ntmps28
    go_wp2_with (go_at_call 35; refine hh.mono ?_; rintro e w' ⟨rfl, rfl⟩)
    go_ret2
    exact ⟨rfl, rfl⟩
  | false =>
    have hh := has_any a b n c m d xs ys w hn hm hx hy hbx hby hnc hmax
    rw [hE] at hh
    clear hE hn hm hx hy
    go_enter Tryd.func28, Tryd.ntmps28
    go_wp2_with (go_at_call 35; refine hh.mono ?_; rintro e w' ⟨rfl, rfl⟩)
    go_ret2
    exact ⟨rfl, rfl⟩

/-- What strconv.ParseUint(D, 10, b) gives: a number, and whether there is no error. -/
def puVal (b : Int) (D : List Int) : Int := if b < 0 ∨ 64 < b then 0 else if (dv D : Int) ≤ mxOf b then (dv D : Int) else mxOf b
def puOk (b : Int) (D : List Int) : Bool := decide (0 ≤ b ∧ b ≤ 64 ∧ (dv D : Int) ≤ mxOf b)
def PuOut (b : Int) (D : List Int) (w : World) (e : Ending) (w' : World) : Prop :=
  ∃ err, e = .returned (.tuple #[.int .u64 (puVal b D), err]) ∧ Below w.heap.size w w' ∧ ((puOk b D = true ∧ err = .nilIface) ∨ (puOk b D = false ∧ ∃ t p, err = .iface t p))

theorem nums_strOf (D : List Int) (h : Bytes D) : nums (strOfNums D) = D := by
  unfold nums strOfNums
  rw [List.map_map]
  conv => rhs; rw [← List.map_id D]
  apply List.map_congr_left
  intro c hc
  have := h c hc
  simp
  omega

theorem pu_ok (b : Int) (D : List Int) (w : World) (h0 : 0 ≤ b) (h1 : b ≤ 64) (hne : 0 < D.length) (hD : AllDig D) (hmax : D.length ≤ 140737488355328) (hle : (dv D : Int) ≤ mxOf b) :
    Calls Tryd.prog 27 #[.string (strOfNums D), .int .i64 10, .int .i64 b] w (PuOut b D w) := by
  have hby : Bytes D := fun c hc => by have := hD c hc; omega
  have hnum := nums_strOf D hby
  have hp := pu_in b (strOfNums D) w h0 h1 (by rw [strOfNums_size]; exact hne) (by rw [hnum]; exact hD) (by rw [strOfNums_size]; exact hmax)
  rw [hnum] at hp
  have hv : puVal b D = (dv D : Int) := by
    unfold puVal; rw [if_neg (by omega), if_pos hle]
  have hk : puOk b D = true := by unfold puOk; exact decide_eq_true ⟨h0, h1, hle⟩
  have HV : Hid _ := hv
  have HK : Hid _ := hk
  have HL : Hid _ := hle
  generalize strOfNums D = s at hp ⊢
  clear hby hnum hv hk hle
  go_enter Tryd.func27, Tryd.ntmps27
  go_wp2_with fail
  refine hp.mono ?_
  rintro e w1 ⟨hb, ⟨_, rfl⟩ | ⟨hc, rfl⟩⟩
  · go_wp2
    go_ret2
    exact ⟨_, by rw [HV.out]; rfl, hb, .inl ⟨HK.out, rfl⟩⟩
  · have := HL.out; omega
end Go.Proofs.Qxb6603783aDoor
