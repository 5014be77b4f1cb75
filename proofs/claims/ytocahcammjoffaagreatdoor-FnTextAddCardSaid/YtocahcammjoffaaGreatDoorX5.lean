/- Walks and lemmas for the laws of this seat. -/
import Derived.Test.YtocahcammjoffaaGreatDoorX4
import Derived.Test.YtocahcammjoffaaGreatDoorXJ
namespace Go.Proofs.YtocahcammjoffaaGreatDoor
open Go.RowKit Go.MuLone
set_option maxRecDepth 100000
theorem St.far {w : World} {c a b x : Nat} {st : Int} {s : ByteArray} (h : St w c a b st s) (hne : c ≠ x) (i : Nat) (u : Value) : St (w.setCell ⟨x, i, none⟩ u) c a b st s :=
  (Below.heap_setCell w ⟨x, i, none⟩ u c hne).trans h
theorem Sv.far {w : World} {a x : Nat} {s : ByteArray} (h : Sv w a s) (hne : a ≠ x) (i : Nat) (u : Value) : Sv (w.setCell ⟨x, i, none⟩ u) a s :=
  (Below.heap_setCell w ⟨x, i, none⟩ u a hne).trans h
set_option maxHeartbeats 1000000 in
theorem string_sum (c a b base : Nat) (sa sb : ByteArray) (w : World) (hc : St w c a b 0 (ByteArray.mk #[])) (ha : Sv w a sa) (hb : Sv w b sb) (hac : a ≠ c) (hbc : b ≠ c) (hbase : base ≤ c) (la : sa.size ≤ 100000) (lb : sb.size ≤ 100000) :
    Calls Tryz.prog 156 #[.pointer (some ⟨c, 0, none⟩)] w fun e w' => e = .returned (.string (sa ++ sb)) ∧ Below base w w' := by
  have HC := hid hc
  have HC1 : Hid (St (w.setCell ⟨c, 0, none⟩ (.int .i32 1)) c a b 1 (ByteArray.mk #[])) := by
    refine hid ?_
    have := hc.set 0 (.int .i32 1)
    simpa using this
  have HA1 := hid (Sv.far ha hac 0 (.int .i32 1))
  have HB1 := hid (Sv.far hb hbc 0 (.int .i32 1))
  have HW1 : Hid (Below base w (w.setCell ⟨c, 0, none⟩ (.int .i32 1))) := (Below.refl base w).setCell (p := ⟨c, 0, none⟩) hbase _
  clear hc ha hb
  go_enter_defers Tryz.func156, Tryz.ntmps156
  go_wp2_with fail
  refine (lock_free muLib ⟨c, 0, none⟩ _ (HC.out.cell 0) (HC.out.frozen 0)).mono ?_
  rintro e w1 ⟨rfl, rfl⟩
  generalize w.setCell ⟨c, 0, none⟩ (.int .i32 1) = w1 at *
  obtain ⟨c0, c2, c3, c4, f0⟩ := HC1.out.five
  go_wp2_with fail
  clear c0 c2 c3 c4 f0
  refine (aR_sum c a b sa sb _ _ HC1.out HA1.out HB1.out hac).mono ?_
  rintro e w2 ⟨v, rfl, hown, hb2⟩
  have HO := hid hown
  have HB2 := hid hb2
  clear hown hb2
  go_wp2_with fail
  refine (rev_two v w1.heap.size sb sa w2 HO.out).mono ?_
  rintro e w3 ⟨rfl, ⟨g, cap, rfl, hcap, hg, hlt, d0, d1⟩, hb3⟩
  have HD0 := hid d0
  have HD1 := hid d1
  have HB3 := hid (HB2.out.trans hb3)
  have hlt3 := Nat.lt_of_lt_of_le hlt hb3.size
  clear d0 d1 hb3 hlt
  go_wp2_with fail
  refine (join_two g cap sa sb w3 HD0.out HD1.out hlt3 hcap la lb).mono ?_
  rintro e w4 ⟨rfl, hb4⟩
  have HB4 : Hid (Below w1.heap.size w1 w4) := hid (HB3.out.trans (hb4.mono HB3.out.size))
  have HC4 := hid (HC1.out.below HB4.out HC1.out.lt)
  clear hb4
  obtain ⟨q0, q2, q3, q4, p0⟩ := HC4.out.five
  have f2 := HC4.out.frozen 2
  have f3 := HC4.out.frozen 3
  have f4 := HC4.out.frozen 4
  go_wp2_with fail
  have HC5 := ((HC4.out.set 2 (.string (sa ++ sb))).set 3 (.pointer none)).set 4 (.pointer none)
  simp only [List.setIfInBounds_toArray, List.set_cons_succ, List.set_cons_zero] at HC5
  have hbt : Below base w (((w4.setCell ⟨c, 2, none⟩ (.string (sa ++ sb))).setCell ⟨c, 3, none⟩ (.pointer none)).setCell ⟨c, 4, none⟩ (.pointer none)) :=
    (((HW1.out.trans (HB4.out.mono (Nat.le_trans hbase (Nat.le_of_lt HC1.out.lt)))).setCell (p := ⟨c, 2, none⟩) hbase _).setCell (p := ⟨c, 3, none⟩) hbase _).setCell (p := ⟨c, 4, none⟩) hbase _
  generalize ((w4.setCell ⟨c, 2, none⟩ (.string (sa ++ sb))).setCell ⟨c, 3, none⟩ (.pointer none)).setCell ⟨c, 4, none⟩ (.pointer none) = w5 at *
  refine leaves_cons (f := 233) (args := #[.pointer (some ⟨c, 0, none⟩)]) (by simp) (by simp [go_sem]) ?_
  refine (unlock_deferred muLib ⟨c, 0, none⟩ .returning _ (HC5.cell 0) (HC5.frozen 0)).mono ?_
  rintro e u' w6 ⟨rfl, rfl, rfl⟩
  exact ⟨_, results_tmp rfl _ _ _, rfl, hbt.setCell (p := ⟨c, 0, none⟩) hbase _⟩
set_option maxHeartbeats 400000 in
theorem stringVal_sum (c a b base : Nat) (sa sb : ByteArray) (w : World) (hc : St w c a b 0 (ByteArray.mk #[])) (ha : Sv w a sa) (hb : Sv w b sb) (hac : a ≠ c) (hbc : b ≠ c) (hbase : base ≤ c) (la : sa.size ≤ 100000) (lb : sb.size ≤ 100000) :
    Calls Tryz.prog 84 #[.iface 180 (.pointer (some ⟨c, 0, none⟩))] w fun e w' => e = .returned (.string (sa ++ sb)) ∧ Below base w w' := by
  have h1 := ta_180_180
  go_enter Tryz.func84, Tryz.ntmps84
  go_wp2_with fail
  refine (string_sum c a b base sa sb w hc ha hb hac hbc hbase la lb).mono ?_
  rintro e w1 ⟨rfl, hb1⟩
  have HB1 := hid hb1
  clear hb1
  go_wp2_with fail
  go_ret
  exact ⟨rfl, HB1.out⟩
set_option maxHeartbeats 400000 in
theorem textAdd_any (sa sb : ByteArray) (w : World) (la : sa.size ≤ 100000) (lb : sb.size ≤ 100000) :
    Calls Tryz.prog 43 #[.string sa, .string sb] w fun e w' => e = .returned (.string (sa ++ sb)) ∧ Below w.heap.size w w' := by
  go_enter Tryz.func43, Tryz.ntmps43
  go_wp2_with fail
  refine (mkString_any sa _).mono ?_
  rintro e w1 ⟨a, rfl, ha0, ha, hb1⟩
  have HA := hid ha
  have HB1 := hid hb1
  clear ha hb1
  go_wp2_with fail
  refine (mkString_any sb _).mono ?_
  rintro e w2 ⟨b, rfl, hb0, hb, hb2⟩
  have HB := hid hb
  have HA2 := hid (HA.out.below hb2 HA.out.lt)
  have HB2 := hid (below_next HB1.out hb2)
  clear hb hb2
  go_wp2_with fail
  refine (bin_add_str a b _).mono ?_
  rintro e w3 ⟨c, rfl, hc0, hc, hb3⟩
  have HC := hid hc
  have HA3 := hid (HA2.out.below hb3 HA2.out.lt)
  have HBB3 := hid (HB.out.below hb3 HB.out.lt)
  have HB3 := hid (below_next HB2.out hb3)
  have hac : a ≠ c := by have := HA2.out.lt; have := hc0.out; omega
  have hbc : b ≠ c := by have := HB.out.lt; have := hc0.out; omega
  have hbs : w.heap.size ≤ c := Nat.le_trans HB2.out.size hc0.out
  clear hc hb3
  go_wp2_with fail
  refine (stringVal_sum c a b w.heap.size sa sb _ HC.out HA3.out HBB3.out hac hbc hbs la lb).mono ?_
  rintro e w4 ⟨rfl, hb4⟩
  have HB4 := hid (HB3.out.trans hb4)
  clear hb4
  go_wp2_with fail
  go_ret
  exact ⟨rfl, HB4.out⟩
end Go.Proofs.YtocahcammjoffaaGreatDoor
