/-
  CONTRACTS OF THE SHELF AT THIS DUMP, in plain words: the tables by the kit's own tool (lay-shelf, lay-plain), cut to the four that are used; below them what is used of them.
-/
import Derived.Shelf.LaysM
import Derived.Shelf.LaysC
import Derived.Shelf.Strconv.Itoa3
import Derived.Shelf.Strconv.Clone
import Derived.Shelf.Strconv.ToErrorRange
import Derived.Shelf.Strconv.AppendInt10
import Derived.Lib.LaidTab
import Derived.Lib.AppendIntMem
import Derived.Test.Qxb6603783aDoorProg
namespace Go.Proofs
open Go.Shelf
def Tryd.laysM171_ren : Go.Shelf.Ren := ⟨fun | 171 => 52 | 243 => 53 | 246 => 54 | 283 => 29 | 284 => 30 | 285 => 31 | 286 => 32 | 129 => 37 | 317 => 36 | 318 => 38 | 319 => 39 | 320 => 40 | 337 => 48 | 338 => 49 | n => n, fun | 3 => 3 | 9 => 9 | 2 => 2 | 4 => 4 | 171 => 57 | 0 => 0 | 53 => 23 | 37 => 22 | 5 => 5 | 173 => 60 | 212 => 65 | 51 => 24 | 20 => 20 | 213 => 66 | 46 => 48 | 232 => 80 | 233 => 81 | n => n, fun | 17 => 0 | 18 => 3 | 19 => 4 | n => n⟩
theorem Tryd.laysM171 : Go.Proofs.LaysM.n171 Tryd.prog Tryd.laysM171_ren := {
  mixed := by kernel_rfl
  f129 := Tryd.func37.trans (congrArg some (by kernel_rfl))
  f171 := Tryd.func52.trans (congrArg some (by kernel_rfl))
  f243 := Tryd.func53.trans (congrArg some (by kernel_rfl))
  f246 := Tryd.func54.trans (congrArg some (by kernel_rfl))
  f283 := Tryd.func29.trans (congrArg some (by kernel_rfl))
  f284 := Tryd.func30.trans (congrArg some (by kernel_rfl))
  f285 := Tryd.func31.trans (congrArg some (by kernel_rfl))
  f286 := Tryd.func32.trans (congrArg some (by kernel_rfl))
  f317 := Tryd.func36.trans (congrArg some (by kernel_rfl))
  f318 := Tryd.func38.trans (congrArg some (by kernel_rfl))
  f319 := Tryd.func39.trans (congrArg some (by kernel_rfl))
  f320 := Tryd.func40.trans (congrArg some (by kernel_rfl))
  f337 := Tryd.func48.trans (congrArg some (by kernel_rfl))
  f338 := Tryd.func49.trans (congrArg some (by kernel_rfl))
  t0 := Tryd.underlying0
  a0 := Tryd.isAgg0
  z0 := Tryd.sizeOf0
  v0 := Tryd.zeroValue0
  t2 := Tryd.underlying2
  a2 := Tryd.isAgg2
  z2 := Tryd.sizeOf2
  v2 := Tryd.zeroValue2
  t3 := Tryd.underlying3
  a3 := Tryd.isAgg3
  z3 := Tryd.sizeOf3
  v3 := Tryd.zeroValue3
  t4 := Tryd.underlying4
  a4 := Tryd.isAgg4
  z4 := Tryd.sizeOf4
  v4 := Tryd.zeroValue4
  t5 := Tryd.underlying5
  a5 := Tryd.isAgg5
  z5 := Tryd.sizeOf5
  v5 := Tryd.zeroValue5
  t9 := Tryd.underlying9
  a9 := Tryd.isAgg9
  z9 := Tryd.sizeOf9
  v9 := Tryd.zeroValue9
  t20 := Tryd.underlying20
  a20 := Tryd.isAgg20
  z20 := Tryd.sizeOf20
  v20 := Tryd.zeroValue20
  t37 := Tryd.underlying22
  a37 := Tryd.isAgg22
  z37 := Tryd.sizeOf22
  v37 := Tryd.zeroValue22
  t46 := Tryd.underlying48
  a46 := Tryd.isAgg48
  z46 := Tryd.sizeOf48
  v46 := Tryd.zeroValue48
  t51 := Tryd.underlying24
  a51 := Tryd.isAgg24
  z51 := Tryd.sizeOf24
  v51 := Tryd.zeroValue24
  t53 := Tryd.underlying23
  a53 := Tryd.isAgg23
  z53 := Tryd.sizeOf23
  v53 := Tryd.zeroValue23
  t171 := Tryd.underlying57
  a171 := Tryd.isAgg57
  z171 := Tryd.sizeOf57
  v171 := Tryd.zeroValue57
  t173 := Tryd.underlying60
  a173 := Tryd.isAgg60
  z173 := Tryd.sizeOf60
  v173 := Tryd.zeroValue60
  t212 := Tryd.underlying65
  a212 := Tryd.isAgg65
  z212 := Tryd.sizeOf65
  v212 := Tryd.zeroValue65
  t213 := Tryd.underlying66
  a213 := Tryd.isAgg66
  z213 := Tryd.sizeOf66
  t232 := Tryd.underlying80
  a232 := Tryd.isAgg80
  z232 := Tryd.sizeOf80
  v232 := Tryd.zeroValue80
  t233 := Tryd.underlying81
  a233 := Tryd.isAgg81
  z233 := Tryd.sizeOf81
  v233 := Tryd.zeroValue81
  g17 := by kernel_rfl
  g18 := by kernel_rfl
  g19 := by kernel_rfl
  i0 := by kernel_rfl
  i2 := by kernel_rfl
  i3 := by kernel_rfl
  i4 := by kernel_rfl
  i5 := by kernel_rfl
  i9 := by kernel_rfl
  i20 := by kernel_rfl
  i37 := by kernel_rfl
  i46 := by kernel_rfl
  i51 := by kernel_rfl
  i53 := by kernel_rfl
  i171 := by kernel_rfl
  i173 := by kernel_rfl
  i212 := by kernel_rfl
  i232 := by kernel_rfl
  i233 := by kernel_rfl
  m17 := by kernel_rfl
  m18 := by kernel_rfl
  m19 := by kernel_rfl }
def Tryd.laysM316_ren : Go.Shelf.Ren := ⟨fun | 316 => 50 | n => n, fun | 9 => 9 | 3 => 3 | 4 => 4 | 37 => 22 | 0 => 0 | 127 => 82 | 5 => 5 | n => n, fun | n => n⟩
theorem Tryd.laysM316 : Go.Proofs.LaysM.n316 Tryd.prog Tryd.laysM316_ren := {
  mixed := by kernel_rfl
  f316 := Tryd.func50.trans (congrArg some (by kernel_rfl))
  t0 := Tryd.underlying0
  a0 := Tryd.isAgg0
  z0 := Tryd.sizeOf0
  v0 := Tryd.zeroValue0
  t3 := Tryd.underlying3
  a3 := Tryd.isAgg3
  z3 := Tryd.sizeOf3
  v3 := Tryd.zeroValue3
  t4 := Tryd.underlying4
  a4 := Tryd.isAgg4
  z4 := Tryd.sizeOf4
  v4 := Tryd.zeroValue4
  t9 := Tryd.underlying9
  a9 := Tryd.isAgg9
  z9 := Tryd.sizeOf9
  v9 := Tryd.zeroValue9
  t37 := Tryd.underlying22
  a37 := Tryd.isAgg22
  z37 := Tryd.sizeOf22
  v37 := Tryd.zeroValue22
  t127 := Tryd.underlying82
  a127 := Tryd.isAgg82
  z127 := Tryd.sizeOf82
  v127 := Tryd.zeroValue82
  t5 := Tryd.underlying5
  a5 := Tryd.isAgg5
  z5 := Tryd.sizeOf5
  v5 := Tryd.zeroValue5
  i0 := by kernel_rfl
  i3 := by kernel_rfl
  i4 := by kernel_rfl
  i5 := by kernel_rfl
  i9 := by kernel_rfl
  i37 := by kernel_rfl
  i127 := by kernel_rfl }
def Tryd.laysC245_ren : Go.Shelf.Ren := ⟨fun | 245 => 34 | 279 => 43 | 280 => 44 | 281 => 45 | 282 => 46 | 316 => 50 | 171 => 52 | 205 => 51 | 243 => 53 | 246 => 54 | 283 => 29 | 284 => 30 | 285 => 31 | 286 => 32 | 129 => 37 | 317 => 36 | 318 => 38 | 319 => 39 | 320 => 40 | 337 => 48 | 338 => 49 | n => n, fun | 9 => 9 | 3 => 3 | 75 => 51 | 167 => 69 | 4 => 4 | 168 => 72 | 210 => 78 | 37 => 22 | 0 => 0 | 127 => 82 | 145 => 85 | 143 => 83 | 2 => 2 | 171 => 57 | 53 => 23 | 5 => 5 | 173 => 60 | 212 => 65 | 51 => 24 | 20 => 20 | 213 => 66 | 46 => 48 | 232 => 80 | 233 => 81 | 80 => 89 | n => n, fun | 15 => 1 | 16 => 2 | 17 => 0 | 18 => 3 | 19 => 4 | n => n⟩
theorem Tryd.laysC245 : Go.Proofs.LaysC.n245 Tryd.prog Tryd.laysC245_ren := {
  mixed := by kernel_rfl
  f129 := Tryd.func37.trans (congrArg some (by kernel_rfl))
  f171 := Tryd.func52.trans (congrArg some (by kernel_rfl))
  f205 := Tryd.func51.trans (congrArg some (by kernel_rfl))
  f243 := Tryd.func53.trans (congrArg some (by kernel_rfl))
  f245 := Tryd.func34.trans (congrArg some (by kernel_rfl))
  f246 := Tryd.func54.trans (congrArg some (by kernel_rfl))
  f279 := Tryd.func43.trans (congrArg some (by kernel_rfl))
  f280 := Tryd.func44.trans (congrArg some (by kernel_rfl))
  f281 := Tryd.func45.trans (congrArg some (by kernel_rfl))
  f282 := Tryd.func46.trans (congrArg some (by kernel_rfl))
  f283 := Tryd.func29.trans (congrArg some (by kernel_rfl))
  f284 := Tryd.func30.trans (congrArg some (by kernel_rfl))
  f285 := Tryd.func31.trans (congrArg some (by kernel_rfl))
  f286 := Tryd.func32.trans (congrArg some (by kernel_rfl))
  f316 := Tryd.func50.trans (congrArg some (by kernel_rfl))
  f317 := Tryd.func36.trans (congrArg some (by kernel_rfl))
  f318 := Tryd.func38.trans (congrArg some (by kernel_rfl))
  f319 := Tryd.func39.trans (congrArg some (by kernel_rfl))
  f320 := Tryd.func40.trans (congrArg some (by kernel_rfl))
  f337 := Tryd.func48.trans (congrArg some (by kernel_rfl))
  f338 := Tryd.func49.trans (congrArg some (by kernel_rfl))
  t0 := Tryd.underlying0
  a0 := Tryd.isAgg0
  z0 := Tryd.sizeOf0
  v0 := Tryd.zeroValue0
  t2 := Tryd.underlying2
  a2 := Tryd.isAgg2
  z2 := Tryd.sizeOf2
  v2 := Tryd.zeroValue2
  t3 := Tryd.underlying3
  a3 := Tryd.isAgg3
  z3 := Tryd.sizeOf3
  v3 := Tryd.zeroValue3
  t4 := Tryd.underlying4
  a4 := Tryd.isAgg4
  z4 := Tryd.sizeOf4
  v4 := Tryd.zeroValue4
  t5 := Tryd.underlying5
  a5 := Tryd.isAgg5
  z5 := Tryd.sizeOf5
  v5 := Tryd.zeroValue5
  t9 := Tryd.underlying9
  a9 := Tryd.isAgg9
  z9 := Tryd.sizeOf9
  v9 := Tryd.zeroValue9
  t20 := Tryd.underlying20
  a20 := Tryd.isAgg20
  z20 := Tryd.sizeOf20
  v20 := Tryd.zeroValue20
  t37 := Tryd.underlying22
  a37 := Tryd.isAgg22
  z37 := Tryd.sizeOf22
  v37 := Tryd.zeroValue22
  t46 := Tryd.underlying48
  a46 := Tryd.isAgg48
  z46 := Tryd.sizeOf48
  v46 := Tryd.zeroValue48
  t51 := Tryd.underlying24
  a51 := Tryd.isAgg24
  z51 := Tryd.sizeOf24
  v51 := Tryd.zeroValue24
  t53 := Tryd.underlying23
  a53 := Tryd.isAgg23
  z53 := Tryd.sizeOf23
  v53 := Tryd.zeroValue23
  t75 := Tryd.underlying51
  a75 := Tryd.isAgg51
  z75 := Tryd.sizeOf51
  v75 := Tryd.zeroValue51
  t127 := Tryd.underlying82
  a127 := Tryd.isAgg82
  z127 := Tryd.sizeOf82
  v127 := Tryd.zeroValue82
  t143 := Tryd.underlying83
  a143 := Tryd.isAgg83
  z143 := Tryd.sizeOf83
  v143 := Tryd.zeroValue83
  t145 := Tryd.underlying85
  a145 := Tryd.isAgg85
  z145 := Tryd.sizeOf85
  v145 := Tryd.zeroValue85
  t167 := Tryd.underlying69
  a167 := Tryd.isAgg69
  z167 := Tryd.sizeOf69
  v167 := Tryd.zeroValue69
  t168 := Tryd.underlying72
  a168 := Tryd.isAgg72
  z168 := Tryd.sizeOf72
  v168 := Tryd.zeroValue72
  t171 := Tryd.underlying57
  a171 := Tryd.isAgg57
  z171 := Tryd.sizeOf57
  v171 := Tryd.zeroValue57
  t173 := Tryd.underlying60
  a173 := Tryd.isAgg60
  z173 := Tryd.sizeOf60
  v173 := Tryd.zeroValue60
  t210 := Tryd.underlying78
  a210 := Tryd.isAgg78
  z210 := Tryd.sizeOf78
  v210 := Tryd.zeroValue78
  t212 := Tryd.underlying65
  a212 := Tryd.isAgg65
  z212 := Tryd.sizeOf65
  v212 := Tryd.zeroValue65
  t213 := Tryd.underlying66
  a213 := Tryd.isAgg66
  z213 := Tryd.sizeOf66
  t232 := Tryd.underlying80
  a232 := Tryd.isAgg80
  z232 := Tryd.sizeOf80
  v232 := Tryd.zeroValue80
  t233 := Tryd.underlying81
  a233 := Tryd.isAgg81
  z233 := Tryd.sizeOf81
  v233 := Tryd.zeroValue81
  g15 := by kernel_rfl
  g16 := by kernel_rfl
  g17 := by kernel_rfl
  g18 := by kernel_rfl
  g19 := by kernel_rfl
  t80 := Tryd.underlying89
  a80 := Tryd.isAgg89
  z80 := Tryd.sizeOf89
  v80 := Tryd.zeroValue89
  i0 := by kernel_rfl
  i2 := by kernel_rfl
  i3 := by kernel_rfl
  i4 := by kernel_rfl
  i5 := by kernel_rfl
  i9 := by kernel_rfl
  i20 := by kernel_rfl
  i37 := by kernel_rfl
  i46 := by kernel_rfl
  i51 := by kernel_rfl
  i53 := by kernel_rfl
  i75 := by kernel_rfl
  i80 := by kernel_rfl
  i127 := by kernel_rfl
  i143 := by kernel_rfl
  i145 := by kernel_rfl
  i167 := by kernel_rfl
  i168 := by kernel_rfl
  i171 := by kernel_rfl
  i173 := by kernel_rfl
  i210 := by kernel_rfl
  i212 := by kernel_rfl
  i232 := by kernel_rfl
  i233 := by kernel_rfl
  m15 := by kernel_rfl
  m16 := by kernel_rfl
  m17 := by kernel_rfl
  m18 := by kernel_rfl
  m19 := by kernel_rfl
  c0 := by kernel_rfl
  c2 := by kernel_rfl
  c3 := by kernel_rfl
  c4 := by kernel_rfl
  c5 := by kernel_rfl
  c9 := by kernel_rfl
  c20 := by kernel_rfl
  c37 := by kernel_rfl
  c46 := by kernel_rfl
  c51 := by kernel_rfl
  c53 := by kernel_rfl
  c75 := by kernel_rfl
  c80 := by kernel_rfl
  c127 := by kernel_rfl
  c143 := by kernel_rfl
  c145 := by kernel_rfl
  c167 := by kernel_rfl
  c168 := by kernel_rfl
  c171 := by kernel_rfl
  c173 := by kernel_rfl
  c210 := by kernel_rfl
  c212 := by kernel_rfl
  c213 := by kernel_rfl
  c232 := by kernel_rfl
  c233 := by kernel_rfl }
def Tryd.laysM288_ren : Go.Shelf.Ren := ⟨fun | 288 => 25 | 283 => 29 | 284 => 30 | 285 => 31 | 286 => 32 | 129 => 37 | 317 => 36 | 318 => 38 | 319 => 39 | 320 => 40 | 337 => 48 | 338 => 49 | n => n, fun | 37 => 22 | 53 => 23 | 3 => 3 | 4 => 4 | 9 => 9 | 171 => 57 | 0 => 0 | 173 => 60 | 212 => 65 | 51 => 24 | 5 => 5 | 20 => 20 | 213 => 66 | 46 => 48 | 232 => 80 | 233 => 81 | n => n, fun | 17 => 0 | 18 => 3 | 19 => 4 | n => n⟩
theorem Tryd.laysM288 : Go.Proofs.LaysM.n288 Tryd.prog Tryd.laysM288_ren := {
  mixed := by kernel_rfl
  f129 := Tryd.func37.trans (congrArg some (by kernel_rfl))
  f283 := Tryd.func29.trans (congrArg some (by kernel_rfl))
  f284 := Tryd.func30.trans (congrArg some (by kernel_rfl))
  f285 := Tryd.func31.trans (congrArg some (by kernel_rfl))
  f286 := Tryd.func32.trans (congrArg some (by kernel_rfl))
  f288 := Tryd.func25.trans (congrArg some (by kernel_rfl))
  f317 := Tryd.func36.trans (congrArg some (by kernel_rfl))
  f318 := Tryd.func38.trans (congrArg some (by kernel_rfl))
  f319 := Tryd.func39.trans (congrArg some (by kernel_rfl))
  f320 := Tryd.func40.trans (congrArg some (by kernel_rfl))
  f337 := Tryd.func48.trans (congrArg some (by kernel_rfl))
  f338 := Tryd.func49.trans (congrArg some (by kernel_rfl))
  t0 := Tryd.underlying0
  a0 := Tryd.isAgg0
  z0 := Tryd.sizeOf0
  v0 := Tryd.zeroValue0
  t3 := Tryd.underlying3
  a3 := Tryd.isAgg3
  z3 := Tryd.sizeOf3
  v3 := Tryd.zeroValue3
  t4 := Tryd.underlying4
  a4 := Tryd.isAgg4
  z4 := Tryd.sizeOf4
  v4 := Tryd.zeroValue4
  t5 := Tryd.underlying5
  a5 := Tryd.isAgg5
  z5 := Tryd.sizeOf5
  v5 := Tryd.zeroValue5
  t9 := Tryd.underlying9
  a9 := Tryd.isAgg9
  z9 := Tryd.sizeOf9
  v9 := Tryd.zeroValue9
  t20 := Tryd.underlying20
  a20 := Tryd.isAgg20
  z20 := Tryd.sizeOf20
  v20 := Tryd.zeroValue20
  t37 := Tryd.underlying22
  a37 := Tryd.isAgg22
  z37 := Tryd.sizeOf22
  v37 := Tryd.zeroValue22
  t46 := Tryd.underlying48
  a46 := Tryd.isAgg48
  z46 := Tryd.sizeOf48
  v46 := Tryd.zeroValue48
  t51 := Tryd.underlying24
  a51 := Tryd.isAgg24
  z51 := Tryd.sizeOf24
  v51 := Tryd.zeroValue24
  t53 := Tryd.underlying23
  a53 := Tryd.isAgg23
  z53 := Tryd.sizeOf23
  v53 := Tryd.zeroValue23
  t171 := Tryd.underlying57
  a171 := Tryd.isAgg57
  z171 := Tryd.sizeOf57
  v171 := Tryd.zeroValue57
  t173 := Tryd.underlying60
  a173 := Tryd.isAgg60
  z173 := Tryd.sizeOf60
  v173 := Tryd.zeroValue60
  t212 := Tryd.underlying65
  a212 := Tryd.isAgg65
  z212 := Tryd.sizeOf65
  v212 := Tryd.zeroValue65
  t213 := Tryd.underlying66
  a213 := Tryd.isAgg66
  z213 := Tryd.sizeOf66
  t232 := Tryd.underlying80
  a232 := Tryd.isAgg80
  z232 := Tryd.sizeOf80
  v232 := Tryd.zeroValue80
  t233 := Tryd.underlying81
  a233 := Tryd.isAgg81
  z233 := Tryd.sizeOf81
  v233 := Tryd.zeroValue81
  g17 := by kernel_rfl
  g18 := by kernel_rfl
  g19 := by kernel_rfl
  i0 := by kernel_rfl
  i3 := by kernel_rfl
  i4 := by kernel_rfl
  i5 := by kernel_rfl
  i9 := by kernel_rfl
  i20 := by kernel_rfl
  i37 := by kernel_rfl
  i46 := by kernel_rfl
  i51 := by kernel_rfl
  i53 := by kernel_rfl
  i171 := by kernel_rfl
  i173 := by kernel_rfl
  i212 := by kernel_rfl
  i232 := by kernel_rfl
  i233 := by kernel_rfl
  m17 := by kernel_rfl
  m18 := by kernel_rfl
  m19 := by kernel_rfl }
end Go.Proofs
namespace Go.Proofs.Qxb6603783aDoor
open Go.RowKit Go.Sort

/-- The table of the powers of ten stands where the program keeps it. -/
def Tab (w : World) : Prop := ∃ t fz, w.heap[0]? = some (.cells (Lib.pow10Tab.map fun z => Value.int .u64 z).toArray t fz)

theorem Tab.is {w : World} (h : Tab w) {name : String} (hg : Tryd.prog.globalNamed name = some 0) : Lib.TabIs Tryd.prog w name .u64 Lib.pow10Tab := by
  obtain ⟨t, fz, h⟩ := h
  unfold Lib.TabIs World.var?
  rw [hg]
  simp only [Option.bind_some, h]

theorem Tab.pos {w : World} (h : Tab w) : 0 < w.heap.size := by
  obtain ⟨t, fz, h⟩ := h
  exact (Array.getElem?_eq_some_iff.1 h).1

theorem Tab.kept {w w' : World} (h : Tab w) (hb : Below w.heap.size w w') : Tab w' := by
  have h0 := h.pos
  obtain ⟨t, fz, h⟩ := h
  exact ⟨t, fz, (hb.block 0 h0).trans h⟩

theorem itoa_any (n : Int) (w : World) (h0 : -9223372036854775808 ≤ n) (h1 : n ≤ 9223372036854775807) (ht : Tab w) :
    Calls Tryd.prog 52 #[.int .i64 n] w fun e w' => e = .returned (.string ⟨(Lib.itoa n).toArray⟩) ∧ Below w.heap.size w w' := by
  refine (Any.strconv_Itoa Tryd.laysM171 n h0 h1 w (ht.is (by kernel_rfl))).mono ?_
  rintro e w' ⟨rfl, k, os, rfl⟩
  exact ⟨rfl, Lib.below_grow _ w (Nat.le_refl _) k os⟩

theorem clones_any (s : ByteArray) (w : World) (h : s.size ≤ 281474976710656) : Calls Tryd.prog 50 #[.string s] w fun e w' => e = .returned (.string s) ∧ Below w.heap.size w w' :=
  Any.stringslite_Clone Tryd.laysM316 s w h

theorem toerr_range (fn s : ByteArray) (base bits : Int) (ev : Value) (w : World) (hlim : s.size ≤ 281474976710656) (hv : w.cell? ⟨2, 0, none⟩ = some ev) (hev : ev = .nilIface ∨ ∃ te pe, ev = .iface te pe) :
    Calls Tryd.prog 34 #[.string fn, .string s, .int .i64 base, .int .i64 bits, .iface 69 (.int .i64 1)] w fun e w' => ∃ N, e = .returned (.iface 72 (.pointer (some ⟨N, 0, none⟩))) ∧ Below w.heap.size w w' := by
  refine (Any.strconv_toError_range Tryd.laysC245 fn s base bits ev w hlim hv hev).mono ?_
  rintro e w' ⟨N, rfl, _, _, hb⟩
  exact ⟨N, rfl, hb⟩

theorem appuint_any (B n u : Nat) (hu : u < 18446744073709551616) (sv : Value) (xs : List Value) (w : World) (hown : w.ownsRow B 5 1 sv n xs) (hBw : B ≤ w.heap.size) (hlim : n + 20 ≤ 140737488355328) (ht : Tab w) :
    Calls Tryd.prog 25 #[sv, .int .u64 u, .int .i64 10] w fun e w' => ∃ v', e = .returned v' ∧ w'.ownsRow B 5 1 v' (n + (Lib.decDigits u).length) (xs ++ Lib.byteCells (Lib.decDigits u)) ∧ Below B w w' := by
  refine (Any.internal_strconv_AppendUint_10 Tryd.laysM288 B n u hu sv xs w hown hBw hlim (ht.is (by kernel_rfl))).mono ?_
  rintro e w' ⟨v', rfl, h1, h2, _⟩
  exact ⟨v', rfl, h1, h2⟩

end Go.Proofs.Qxb6603783aDoor
