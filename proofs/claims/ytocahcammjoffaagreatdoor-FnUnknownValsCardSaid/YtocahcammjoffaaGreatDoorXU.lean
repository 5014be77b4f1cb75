/- Walks and lemmas for the laws of this seat. -/
import Derived.Test.YtocahcammjoffaaGreatDoorBs
import Derived.Shelf.Small.Bits
import Derived.Shelf.Strconv.Itoa0
import Derived.Test.YtocahcammjoffaaGreatDoorWU

namespace Go.Proofs.YtocahcammjoffaaGreatDoor
open Go.Shelf
set_option maxRecDepth 100000
def sh_lays129_ren : Go.Shelf.Ren := ⟨fun | 129 => 237 | n => n, fun | 53 => 34 | 3 => 3 | 4 => 4 | 46 => 44 | 5 => 5 | 9 => 9 | n => n, fun | n => n⟩
theorem sh_lays129 : Go.Proofs.Lays.n129 Tryz.prog sh_lays129_ren := {
  mixed := by kernel_rfl
  f129 := Tryz.func237.trans (congrArg some (by kernel_rfl))
  t3 := Tryz.underlying3
  a3 := Tryz.isAgg3
  z3 := Tryz.sizeOf3
  v3 := Tryz.zeroValue3
  t4 := Tryz.underlying4
  a4 := Tryz.isAgg4
  z4 := Tryz.sizeOf4
  v4 := Tryz.zeroValue4
  t5 := Tryz.underlying5
  a5 := Tryz.isAgg5
  z5 := Tryz.sizeOf5
  v5 := Tryz.zeroValue5
  t9 := Tryz.underlying9
  a9 := Tryz.isAgg9
  z9 := Tryz.sizeOf9
  v9 := Tryz.zeroValue9
  t46 := Tryz.underlying44
  a46 := Tryz.isAgg44
  z46 := Tryz.sizeOf44
  v46 := Tryz.zeroValue44
  t53 := Tryz.underlying34
  a53 := Tryz.isAgg34
  z53 := Tryz.sizeOf34
  v53 := Tryz.zeroValue34 }
theorem sh_bits_Len64 (x : Int) (w : World) (h0 : 0 ≤ x) (h1 : x ≤ 18446744073709551615) :
    Calls Tryz.prog 237 #[.int .u64 x] w fun e w' => e = .returned (.int .i64 (Lib.bitLen x.toNat)) ∧ w' = w := Any.bits_Len64 sh_lays129 x w h0 h1
def sh_lays134_ren : Go.Shelf.Ren := ⟨fun | 134 => 159 | 129 => 237 | n => n, fun | 53 => 34 | 3 => 3 | 4 => 4 | 46 => 44 | 5 => 5 | 9 => 9 | n => n, fun | n => n⟩
theorem sh_lays134 : Go.Proofs.Lays.n134 Tryz.prog sh_lays134_ren := {
  mixed := by kernel_rfl
  f129 := Tryz.func237.trans (congrArg some (by kernel_rfl))
  f134 := Tryz.func159.trans (congrArg some (by kernel_rfl))
  t3 := Tryz.underlying3
  a3 := Tryz.isAgg3
  z3 := Tryz.sizeOf3
  v3 := Tryz.zeroValue3
  t4 := Tryz.underlying4
  a4 := Tryz.isAgg4
  z4 := Tryz.sizeOf4
  v4 := Tryz.zeroValue4
  t5 := Tryz.underlying5
  a5 := Tryz.isAgg5
  z5 := Tryz.sizeOf5
  v5 := Tryz.zeroValue5
  t9 := Tryz.underlying9
  a9 := Tryz.isAgg9
  z9 := Tryz.sizeOf9
  v9 := Tryz.zeroValue9
  t46 := Tryz.underlying44
  a46 := Tryz.isAgg44
  z46 := Tryz.sizeOf44
  v46 := Tryz.zeroValue44
  t53 := Tryz.underlying34
  a53 := Tryz.isAgg34
  z53 := Tryz.sizeOf34
  v53 := Tryz.zeroValue34 }
theorem sh_bits_LeadingZeros64 (x : Int) (w : World) (h0 : 0 ≤ x) (h1 : x ≤ 18446744073709551615) :
    Calls Tryz.prog 159 #[.int .u64 x] w fun e w' => e = .returned (.int .i64 (64 - (Lib.bitLen x.toNat : Int))) ∧ w' = w := Any.bits_LeadingZeros64 sh_lays134 x w h0 h1
open Go.RowKit
theorem bitLen_8 (x : Nat) (h0 : 128 ≤ x) (h1 : x < 256) : Lib.bitLen x = 8 := by
  have e : x / 2 ^ 7 = 1 := by omega
  rw [Lib.bitLen_shift 7 x h0 (by omega), e]
  decide
end Go.Proofs.YtocahcammjoffaaGreatDoor
namespace Go.Proofs.YtocahcammjoffaaGreatDoor
open Go.RowKit Go.Dig
set_option maxRecDepth 100000
set_option maxHeartbeats 400000 in
theorem bitLen_small (x : Nat) (w : World) (h0 : 128 ≤ x) (h1 : x < 256) : Calls Tryz.prog 87 #[.iface 119 (.int .i64 (x : Int))] w fun e w' => e = .returned (.int .i64 8) ∧ w = w' := by
  have t1 := ta_119_119
  have HL : Hid (Lib.bitLen x = 8) := bitLen_8 x h0 h1
  go_enter Tryz.func87, Tryz.ntmps87
  go_wp2_with fail
  refine (sh_bits_LeadingZeros64 (x : Int) w (by omega) (by omega)).mono ?_
  rintro e w' ⟨rfl, rfl⟩
  rw [Int.toNat_natCast, HL.out]
  go_wp2_with fail
  go_ret
  exact ⟨rfl, rfl⟩
set_option maxHeartbeats 1000000 in
theorem iBitLen_small (n : Nat) (v1 : Value) (w : World) (h : Rt 44 .u64 w v1 (dg 18446744073709551616 n)) (h0 : 128 ≤ n) (h1 : n < 256) :
    Calls Tryz.prog 46 #[.agg #[.int .i64 3, .bool false, .string (ByteArray.mk #[]), .bool false, v1, .slice none 0 0, .bool false, .slice none 0 0, .slice none 0 0]] w fun e w' => e = .returned (.int .i64 8) ∧ Below w.heap.size w w' := by
  have HV : Hid (val 18446744073709551616 (dg 18446744073709551616 n) = n) := val_dg (by omega) n
  have Hb0 : Hid (Below w.heap.size w (w.alloc (.cells #[.int .i64 3, .bool false, .string (ByteArray.mk #[]), .bool false, v1, .slice none 0 0, .bool false, .slice none 0 0, .slice none 0 0] 26))) := (Below.refl _ _).alloc (Nat.le_refl _) _
  have H0 := hid (h.below Hb0.out (Nat.le_refl _))
  have HD := hid (dg_lt (b := 18446744073709551616) (by omega) n)
  have HL := hid (Nat.le_trans (dg_len_small (n := n) (by omega)) (show 1 ≤ 100000 by omega))
  clear h
  generalize dg 18446744073709551616 n = ws at *
  go_enter Tryz.func46, Tryz.ntmps46
  go_wp2_with fail
  refine (whole_int false false false _ v1 _ _ _ ws _ H0.out.rd HD.out HL.out).mono ?_
  rintro e w1 ⟨v, b, sg, rfl, hM, _, _, hb1⟩
  have Hb1 := hid (below_next Hb0.out hb1)
  clear hb1
  rw [HV.out] at hM
  rcases hM with ⟨_, rfl⟩ | ⟨hf, _⟩
  rotate_left
  · exact absurd hf (by rw [fit_in2 ⟨by simp [sgn] <;> omega, by simp [sgn] <;> omega⟩]; decide)
  have HS : Hid (sgn false n = (n : Int)) := rfl
  rw [HS.out]
  go_wp2_with fail
  refine (bitLen_small n _ h0 h1).mono ?_
  rintro e w2 ⟨rfl, rfl⟩
  go_wp2_with fail
  go_ret
  exact ⟨rfl, Hb1.out⟩
end Go.Proofs.YtocahcammjoffaaGreatDoor
namespace Go.Proofs.YtocahcammjoffaaGreatDoor
open Go.RowKit Go.Dig
set_option maxRecDepth 100000
theorem or_128 (b : Nat) (h : b < 256) : ∃ n : Nat, bits .or .u8 (b : Int) 128 = (n : Int) ∧ 128 ≤ n ∧ n < 256 := by
  have hall : ∀ x : Fin 256, bits .or .u8 ((x.val : Nat) : Int) 128 = ((x.val ||| 128 : Nat) : Int) ∧ 128 ≤ x.val ||| 128 ∧ x.val ||| 128 < 256 := by decide +kernel
  exact ⟨b ||| 128, hall ⟨b, h⟩⟩
set_option maxHeartbeats 4000000 in
theorem unknownVals_walk (b : Int) (w : World) (h0 : 0 ≤ b) (h1 : b ≤ 255) : Calls Tryz.prog 17 #[.int .u8 b] w fun e w' => e = .returned (.bool true) ∧ Below w.heap.size w w' := by
  obtain ⟨n, rfl⟩ : ∃ n : Nat, b = (n : Int) := ⟨b.toNat, by omega⟩
  obtain ⟨m, hor, hm0, hm1⟩ := or_128 n (by omega)
  have HK := hid (blk_new w zeroV 26)
  have HB : Hid (Below w.heap.size w (w.alloc (.cells zeroV 26))) := (Below.refl _ _).alloc (Nat.le_refl _) _
  go_enter Tryz.func17, Tryz.ntmps17
  go_wp2_with fail
  generalize (w.alloc (.cells zeroV 26)) = w0 at *
  refine (iInt64_none _).mono ?_
  rintro e w1 ⟨rfl, hb⟩
  have HK := hid (HK.out.below hb HK.out.lt)
  have HB := hid (below_next HB.out hb)
  clear hb
  obtain ⟨c0, c1, c2, c3, c4, c5, c6, c7, c8, f0, f1, f2, f3, f4, f5, f6, f7, f8⟩ := HK.out.nine
  clear f0 f1 f2 f3 f4 f5 f6 f7 f8
  go_wp2_with fail
  clear c0 c1 c2 c3 c4 c5 c6 c7 c8
  refine (iUint64_none _).mono ?_
  rintro e w2 ⟨rfl, hb⟩
  have HK := hid (HK.out.below hb HK.out.lt)
  have HB := hid (below_next HB.out hb)
  clear hb
  obtain ⟨c0, c1, c2, c3, c4, c5, c6, c7, c8, f0, f1, f2, f3, f4, f5, f6, f7, f8⟩ := HK.out.nine
  clear f0 f1 f2 f3 f4 f5 f6 f7 f8
  go_wp2_with fail
  clear c0 c1 c2 c3 c4 c5 c6 c7 c8
  refine (iFloat64_none _).mono ?_
  rintro e w3 ⟨rfl, hb⟩
  have HK := hid (HK.out.below hb HK.out.lt)
  have HB := hid (below_next HB.out hb)
  clear hb
  obtain ⟨c0, c1, c2, c3, c4, c5, c6, c7, c8, f0, f1, f2, f3, f4, f5, f6, f7, f8⟩ := HK.out.nine
  clear f0 f1 f2 f3 f4 f5 f6 f7 f8
  go_wp2_with fail
  clear c0 c1 c2 c3 c4 c5 c6 c7 c8
  refine (iFloat32_none _).mono ?_
  rintro e w4 ⟨rfl, hb⟩
  have HK := hid (HK.out.below hb HK.out.lt)
  have HB := hid (below_next HB.out hb)
  clear hb
  obtain ⟨c0, c1, c2, c3, c4, c5, c6, c7, c8, f0, f1, f2, f3, f4, f5, f6, f7, f8⟩ := HK.out.nine
  clear f0 f1 f2 f3 f4 f5 f6 f7 f8
  go_wp2_with fail
  clear c0 c1 c2 c3 c4 c5 c6 c7 c8
  refine (iBitLen_none _).mono ?_
  rintro e w5 ⟨rfl, hb⟩
  have HK := hid (HK.out.below hb HK.out.lt)
  have HB := hid (below_next HB.out hb)
  clear hb
  obtain ⟨c0, c1, c2, c3, c4, c5, c6, c7, c8, f0, f1, f2, f3, f4, f5, f6, f7, f8⟩ := HK.out.nine
  clear f0 f1 f2 f3 f4 f5 f6 f7 f8
  go_wp2_with fail
  clear c0 c1 c2 c3 c4 c5 c6 c7 c8
  refine (iStringLen_none _).mono ?_
  rintro e w6 ⟨rfl, hb⟩
  have HK := hid (HK.out.below hb HK.out.lt)
  have HB := hid (below_next HB.out hb)
  clear hb
  obtain ⟨c0, c1, c2, c3, c4, c5, c6, c7, c8, f0, f1, f2, f3, f4, f5, f6, f7, f8⟩ := HK.out.nine
  clear f0 f1 f2 f3 f4 f5 f6 f7 f8
  go_wp2_with fail
  clear c0 c1 c2 c3 c4 c5 c6 c7 c8
  refine (iSign_none _).mono ?_
  rintro e w7 ⟨rfl, hb⟩
  have HK := hid (HK.out.below hb HK.out.lt)
  have HB := hid (below_next HB.out hb)
  clear hb
  obtain ⟨c0, c1, c2, c3, c4, c5, c6, c7, c8, f0, f1, f2, f3, f4, f5, f6, f7, f8⟩ := HK.out.nine
  clear f0 f1 f2 f3 f4 f5 f6 f7 f8
  go_wp2_with fail
  clear c0 c1 c2 c3 c4 c5 c6 c7 c8
  refine (iFromBytes_small _ [m] _ (rd_one rfl rfl) (by simp; omega) (by simp) (.inr ⟨_, _, rfl⟩)).mono ?_
  rintro e w8 ⟨t, v, rfl, HT, hv, hb⟩
  have HB8 := hid (below_next HB.out (below_over hb))
  have ht : t = false := HT.out
  subst ht
  have hval : val 256 [m] = m := by simp [val]
  rw [hval] at hv
  have HV := hid hv
  clear hv hb hval HT
  go_wp2_with fail
  refine (iBitLen_small m v _ HV.out hm0 hm1).mono ?_
  rintro e w9 ⟨rfl, hb⟩
  have HB9 := hid (below_next HB8.out hb)
  clear hb
  go_wp2_with fail
  go_ret
  exact ⟨rfl, HB9.out⟩
end Go.Proofs.YtocahcammjoffaaGreatDoor
