/- Walks and lemmas for the laws of this seat. -/
import Derived.Test.YtocahcammjoffaaGreatDoorBs
import Derived.Shelf.Strings.OnBuilder
namespace Go.Proofs.YtocahcammjoffaaGreatDoor
open Go.Shelf
set_option maxRecDepth 100000
def sh_lays156_ren : Go.Shelf.Ren := ⟨fun | 156 => 234 | 165 => 275 | 166 => 276 | 169 => 277 | 240 => 316 | 241 => 317 | 276 => 346 | 277 => 347 | n => n, fun | 31 => 253 | 9 => 9 | 3 => 3 | 4 => 4 | 0 => 0 | 20 => 20 | 72 => 287 | 76 => 291 | 70 => 285 | 37 => 49 | 75 => 290 | 127 => 318 | 164 => 315 | 5 => 5 | 80 => 190 | n => n, fun | n => n⟩
theorem sh_lays156 : Go.Proofs.Lays.n156 Tryz.prog sh_lays156_ren := {
  mixed := by kernel_rfl
  f156 := Tryz.func234.trans (congrArg some (by kernel_rfl))
  f165 := Tryz.func275.trans (congrArg some (by kernel_rfl))
  f166 := Tryz.func276.trans (congrArg some (by kernel_rfl))
  f169 := Tryz.func277.trans (congrArg some (by kernel_rfl))
  f240 := Tryz.func316.trans (congrArg some (by kernel_rfl))
  f241 := Tryz.func317.trans (congrArg some (by kernel_rfl))
  f276 := Tryz.func346.trans (congrArg some (by kernel_rfl))
  f277 := Tryz.func347.trans (congrArg some (by kernel_rfl))
  t0 := Tryz.underlying0
  a0 := Tryz.isAgg0
  z0 := Tryz.sizeOf0
  v0 := Tryz.zeroValue0
  t3 := Tryz.underlying3
  a3 := Tryz.isAgg3
  z3 := Tryz.sizeOf3
  v3 := Tryz.zeroValue3
  t4 := Tryz.underlying4
  a4 := Tryz.isAgg4
  z4 := Tryz.sizeOf4
  v4 := Tryz.zeroValue4
  t9 := Tryz.underlying9
  a9 := Tryz.isAgg9
  z9 := Tryz.sizeOf9
  v9 := Tryz.zeroValue9
  t20 := Tryz.underlying20
  a20 := Tryz.isAgg20
  z20 := Tryz.sizeOf20
  v20 := Tryz.zeroValue20
  t31 := Tryz.underlying253
  a31 := Tryz.isAgg253
  z31 := Tryz.sizeOf253
  v31 := Tryz.zeroValue253
  t37 := Tryz.underlying49
  a37 := Tryz.isAgg49
  z37 := Tryz.sizeOf49
  v37 := Tryz.zeroValue49
  t70 := Tryz.underlying285
  a70 := Tryz.isAgg285
  z70 := Tryz.sizeOf285
  v70 := Tryz.zeroValue285
  t72 := Tryz.underlying287
  a72 := Tryz.isAgg287
  z72 := Tryz.sizeOf287
  v72 := Tryz.zeroValue287
  t75 := Tryz.underlying290
  a75 := Tryz.isAgg290
  z75 := Tryz.sizeOf290
  v75 := Tryz.zeroValue290
  t76 := Tryz.underlying291
  a76 := Tryz.isAgg291
  z76 := Tryz.sizeOf291
  v76 := Tryz.zeroValue291
  t127 := Tryz.underlying318
  a127 := Tryz.isAgg318
  z127 := Tryz.sizeOf318
  v127 := Tryz.zeroValue318
  t164 := Tryz.underlying315
  a164 := Tryz.isAgg315
  z164 := Tryz.sizeOf315
  v164 := Tryz.zeroValue315 }
theorem sh_Builder_Extra_156 : Builder.Extra Tryz.prog sh_lays156_ren := {
  sizeBuilder := by kernel_rfl
  liesBuilder := by kernel_rfl
  t5 := Tryz.underlying5
  a5 := Tryz.isAgg5
  z5 := Tryz.sizeOf5
  v5 := Tryz.zeroValue5
  infoByte := by kernel_rfl
  cellsByte := by kernel_rfl
  sizeByte := by kernel_rfl
  neB5 := by decide }
open Go.RowKit in
theorem sh_strings_Join (bk o c : Nat) (xs : List ByteArray) (sep : ByteArray) (w : World) (hcells : ∀ (j : Nat) x, xs[j]? = some x → w.cell? ⟨bk, o + j, none⟩ = some (.string x)) (hbk : bk < w.heap.size) (hN : xs.length ≤ 140737488355328) (hcap : xs.length ≤ c) (hlen : (Lib.join (xs.map (·.data.toList)) sep.data.toList).length ≤ 140737488355328) :
    Calls Tryz.prog 234 #[.slice (some ⟨bk, o, none⟩) xs.length c, .string sep] w fun e w' => e = .returned (.string ⟨(Lib.join (xs.map (·.data.toList)) sep.data.toList).toArray⟩) ∧ Below w.heap.size w w' := Any.strings_Join sh_lays156 sh_Builder_Extra_156 bk o c xs sep w hcells hbk hN hcap hlen
open Go.RowKit
theorem join_list (s0 s1 : ByteArray) : (⟨(Lib.join ([s0, s1].map (·.data.toList)) (ByteArray.mk #[]).data.toList).toArray⟩ : ByteArray) = s0 ++ s1 := by
  apply ByteArray.ext
  apply Array.toList_inj.1
  simp [Lib.join, List.intercalate]
theorem join_two (g cap : Nat) (s0 s1 : ByteArray) (w : World) (h0 : w.cell? ⟨g, 0, none⟩ = some (.string s0)) (h1 : w.cell? ⟨g, 1, none⟩ = some (.string s1)) (hlt : g < w.heap.size) (hcap : 2 ≤ cap) (l0 : s0.size ≤ 100000) (l1 : s1.size ≤ 100000) :
    Calls Tryz.prog 234 #[.slice (some ⟨g, 0, none⟩) 2 cap, .string (ByteArray.mk #[])] w fun e w' => e = .returned (.string (s0 ++ s1)) ∧ Below w.heap.size w w' := by
  refine (sh_strings_Join g 0 cap [s0, s1] (ByteArray.mk #[]) w ?_ hlt (by simp) hcap ?_).mono fun e w' ⟨he, hb⟩ => ⟨by rw [he, join_list], hb⟩
  · intro j x hj
    match j, hj with
    | 0, hj => simp at hj; subst hj; simpa using h0
    | 1, hj => simp at hj; subst hj; simpa using h1
  · simp [Lib.join, List.intercalate]
    omega
end Go.Proofs.YtocahcammjoffaaGreatDoor
