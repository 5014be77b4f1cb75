/- Walks and lemmas for the laws of this seat. -/
import Derived.Test.YtocahcammjoffaaGreatDoorLA
import Derived.Test.YtocahcammjoffaaGreatDoorS4
import Derived.Deep.RegionHeld3
namespace Go.Proofs.YtocahcammjoffaaGreatDoor
open Go.RowKit Go.Dig
set_option maxRecDepth 100000
theorem isNumber_t (xn neg : Bool) (vx vn : Value) (ws : List Nat) (n : Nat) (w : World) (hx : Rd .u64 w vx ws) (hn : Nt w vn n) (hl : (dg 65536 n).length ≤ 100000) (hP : xn = (neg && decide (n ≠ 0)) ∧ ws = dg 18446744073709551616 n) :
    Calls Tryz.prog 92 #[.agg #[.bool xn, vx], .bool neg, vn] w fun e w' => e = .returned (.bool true) ∧ Below w.heap.size w w' :=
  (isNumber_any xn neg vx vn ws n w hx hn hl).mono fun e w' ⟨ok, h1, h2, h3⟩ => ⟨by rw [h1, h2.out.2 hP], h3⟩
theorem isNumber_f (xn neg : Bool) (vx vn : Value) (ws : List Nat) (n : Nat) (w : World) (hx : Rd .u64 w vx ws) (hn : Nt w vn n) (hl : (dg 65536 n).length ≤ 100000) (hP : ¬ (xn = (neg && decide (n ≠ 0)) ∧ ws = dg 18446744073709551616 n)) :
    Calls Tryz.prog 92 #[.agg #[.bool xn, vx], .bool neg, vn] w fun e w' => e = .returned (.bool false) ∧ Below w.heap.size w w' :=
  (isNumber_any xn neg vx vn ws n w hx hn hl).mono fun e w' ⟨ok, h1, h2, h3⟩ => ⟨by
    cases ok
    · exact h1
    · exact absurd (h2.out.1 rfl) hP, h3⟩
theorem Blk.far3 {w : World} {b X : Nat} {c : Array Value} {e : TypeId} (h : Blk w b c e) (hne : b ≠ X) (x0 x1 x2 : Value) :
    Blk (((w.setCell ⟨X, 0, none⟩ x0).setCell ⟨X, 1, none⟩ x1).setCell ⟨X, 2, none⟩ x2) b c e :=
  (Below.heap_setCell _ ⟨X, 2, none⟩ x2 b hne).trans ((Below.heap_setCell _ ⟨X, 1, none⟩ x1 b hne).trans ((Below.heap_setCell w ⟨X, 0, none⟩ x0 b hne).trans h))
theorem cells12 {w : World} {B X : Nat} {x0 x1 x2 x3 x4 x5 x6 x7 x8 y0 y1 y2 : Value} (hP : Blk w B #[x0, x1, x2, x3, x4, x5, x6, x7, x8] 26) (hV : Blk w X #[y0, y1, y2] 31) :
    w.cell? ⟨B, 0, none⟩ = some x0 ∧ w.cell? ⟨B, 1, none⟩ = some x1 ∧ w.cell? ⟨B, 2, none⟩ = some x2 ∧ w.cell? ⟨B, 3, none⟩ = some x3 ∧ w.cell? ⟨B, 4, none⟩ = some x4 ∧ w.cell? ⟨B, 5, none⟩ = some x5 ∧ w.cell? ⟨B, 6, none⟩ = some x6 ∧ w.cell? ⟨B, 7, none⟩ = some x7 ∧ w.cell? ⟨B, 8, none⟩ = some x8 ∧ w.cell? ⟨X, 0, none⟩ = some y0 ∧ w.cell? ⟨X, 1, none⟩ = some y1 ∧ w.cell? ⟨X, 2, none⟩ = some y2 :=
  ⟨hP.cell 0, hP.cell 1, hP.cell 2, hP.cell 3, hP.cell 4, hP.cell 5, hP.cell 6, hP.cell 7, hP.cell 8, hV.cell 0, hV.cell 1, hV.cell 2⟩
theorem whole_h (neg : Bool) (v : Value) (n : Nat) (w : World) (h : Nt w v n) :
    Calls Tryz.prog 34 #[.bool neg, v] w fun e w' => ∃ s0 v1 v2, e = .returned (.agg #[.bool s0, v1, v2]) ∧ Hid (s0 = (neg && decide (n ≠ 0))) ∧ Nt w' v1 n ∧ Nt w' v2 1 ∧ Below w.heap.size w w' :=
  (whole_any neg v n w h).mono fun _ _ ⟨v1, v2, e, a, b, c⟩ => ⟨_, v1, v2, e, rfl, a, b, c⟩
theorem of_len {ws : List Nat} (hd : ∀ d ∈ ws, d < 18446744073709551616) (hn : ws.length ≤ 1000) : (dg 65536 (val 18446744073709551616 ws)).length ≤ 100000 := by
  have h1 := val_lt (b := 18446744073709551616) (by omega) hd
  rw [wb_pow] at h1
  have := dg_length_le (b := 65536) (by omega) h1
  omega
theorem cell_set3 {w : World} {X B : Nat} (hne : B ≠ X) (x0 x1 x2 : Value) (i : Nat) :
    (((w.setCell ⟨X, 0, none⟩ x0).setCell ⟨X, 1, none⟩ x1).setCell ⟨X, 2, none⟩ x2).cell? ⟨B, i, none⟩ = w.cell? ⟨B, i, none⟩ := by
  rw [World.cell?_setCell_other _ _ _ _ (fun e => hne (congrArg Addr.block e).symm), World.cell?_setCell_other _ _ _ _ (fun e => hne (congrArg Addr.block e).symm), World.cell?_setCell_other _ _ _ _ (fun e => hne (congrArg Addr.block e).symm)]
/-- How the end of spec.Integer is read: Q says that what a number does not use is nothing. -/
def IntP (n1 : Bool) (ws : List Nat) (Q : Prop) (w : World) (e : Ending) (w' : World) : Prop :=
  ∃ s0 u1 u2 ok, e = .returned (.tuple #[.agg #[.bool s0, u1, u2], .bool ok]) ∧ Hid (s0 = (n1 && decide (val 18446744073709551616 ws ≠ 0))) ∧
    Hid (ok = true → n1 = s0 ∧ ws = dg 18446744073709551616 (val 18446744073709551616 ws)) ∧ Hid (n1 = s0 ∧ ws = dg 18446744073709551616 (val 18446744073709551616 ws) ∧ Q → ok = true) ∧
    (Nt w' u1 (val 18446744073709551616 ws) ∧ Nt w' u2 1) ∧ Below w.heap.size w w'
set_option maxHeartbeats 2000000 in
theorem integer_3 (t : Bool) (s : ByteArray) (n1 n2 : Bool) (v1 : Value) (a2 a3 a4 : Option Addr) (L2 l3 l4 c2 c3 c4 : Nat) (ws : List Nat) (w : World) (h : Rd .u64 w v1 ws) (hw : ∀ x ∈ ws, x < 18446744073709551616) (hlen : ws.length ≤ 1000) :
    Calls Tryz.prog 51 #[.agg #[.int .i64 3, .bool t, .string s, .bool n1, v1, .slice a2 L2 c2, .bool n2, .slice a3 l3 c3, .slice a4 l4 c4]] w (IntP n1 ws (L2 = 0 ∧ t = false ∧ s = ByteArray.mk #[] ∧ n2 = false ∧ l3 = 0 ∧ l4 = 0) w) := by
  obtain ⟨a1, c1, rfl⟩ := h.shape
  have HP : Hid (Blk ((w.alloc (.cells #[.int .i64 3, .bool t, .string s, .bool n1, .slice a1 ws.length c1, .slice a2 L2 c2, .bool n2, .slice a3 l3 c3, .slice a4 l4 c4] 26)).alloc (.cells #[.bool false, .slice none 0 0, .slice none 0 0] 31)) w.heap.size #[.int .i64 3, .bool t, .string s, .bool n1, .slice a1 ws.length c1, .slice a2 L2 c2, .bool n2, .slice a3 l3 c3, .slice a4 l4 c4] 26) := (blk_new w _ 26).alloc _
  have HR : Hid (Blk ((w.alloc (.cells #[.int .i64 3, .bool t, .string s, .bool n1, .slice a1 ws.length c1, .slice a2 L2 c2, .bool n2, .slice a3 l3 c3, .slice a4 l4 c4] 26)).alloc (.cells #[.bool false, .slice none 0 0, .slice none 0 0] 31)) (w.heap.size + 1) #[.bool false, .slice none 0 0, .slice none 0 0] 31) := by
    have := blk_new (w.alloc (.cells #[.int .i64 3, .bool t, .string s, .bool n1, .slice a1 ws.length c1, .slice a2 L2 c2, .bool n2, .slice a3 l3 c3, .slice a4 l4 c4] 26)) #[.bool false, .slice none 0 0, .slice none 0 0] 31
    refine hid ?_
    simpa using this
  have HB : Hid (Below w.heap.size w ((w.alloc (.cells #[.int .i64 3, .bool t, .string s, .bool n1, .slice a1 ws.length c1, .slice a2 L2 c2, .bool n2, .slice a3 l3 c3, .slice a4 l4 c4] 26)).alloc (.cells #[.bool false, .slice none 0 0, .slice none 0 0] 31))) := ((Below.refl _ _).alloc (Nat.le_refl _) _).alloc (by simp) _
  have H1 := hid (h.below HB.out (Nat.le_refl _))
  have HW := hid hw
  have HN := hid hlen
  have h3 : ((w.alloc (.cells #[.int .i64 3, .bool t, .string s, .bool n1, .slice a1 ws.length c1, .slice a2 L2 c2, .bool n2, .slice a3 l3 c3, .slice a4 l4 c4] 26)).alloc (.cells #[.bool false, .slice none 0 0, .slice none 0 0] 31)).cell? ⟨w.heap.size, 3, none⟩ = some (.bool n1) := HP.out.cell 3
  have h4 : ((w.alloc (.cells #[.int .i64 3, .bool t, .string s, .bool n1, .slice a1 ws.length c1, .slice a2 L2 c2, .bool n2, .slice a3 l3 c3, .slice a4 l4 c4] 26)).alloc (.cells #[.bool false, .slice none 0 0, .slice none 0 0] 31)).cell? ⟨w.heap.size, 4, none⟩ = some (.slice a1 ws.length c1) := HP.out.cell 4
  have l0 := HP.out.lt
  clear h hw hlen
  go_enter Tryz.func51, Tryz.ntmps51
  go_wp2_with fail
  generalize ((w.alloc (.cells #[.int .i64 3, .bool t, .string s, .bool n1, .slice a1 ws.length c1, .slice a2 L2 c2, .bool n2, .slice a3 l3 c3, .slice a4 l4 c4] 26)).alloc (.cells #[.bool false, .slice none 0 0, .slice none 0 0] 31)) = w0 at *
  have d3 : w0.drew.cell? ⟨w.heap.size, 3, none⟩ = some (.bool n1) := h3
  have d4 : w0.drew.cell? ⟨w.heap.size, 4, none⟩ = some (.slice a1 ws.length c1) := h4
  have b3 : (w0.alloc (.cells #[.bool false, .slice none 0 0, .slice none 0 0] 31)).drew.cell? ⟨w.heap.size, 3, none⟩ = some (.bool n1) := (World.cell?_alloc_lt w0 _ _ l0).trans h3
  have b4 : (w0.alloc (.cells #[.bool false, .slice none 0 0, .slice none 0 0] 31)).drew.cell? ⟨w.heap.size, 4, none⟩ = some (.slice a1 ws.length c1) := (World.cell?_alloc_lt w0 _ _ l0).trans h4
  have HD0 : Hid (Below w0.heap.size w0 w0.drew) := (Below.refl _ _).drew
  have HD1 : Hid (Below w0.heap.size w0 (w0.alloc (.cells #[.bool false, .slice none 0 0, .slice none 0 0] 31)).drew) := ((Below.refl _ _).alloc (Nat.le_refl _) _).drew
  have H1d := hid (H1.out.below HD0.out (Nat.le_refl _))
  have H1b := hid (H1.out.below HD1.out (Nat.le_refl _))
  have HK0 : Hid (Blk (w0.alloc (.cells #[.bool false, .slice none 0 0, .slice none 0 0] 31)).drew w0.heap.size #[.bool false, .slice none 0 0, .slice none 0 0] 31) := blk_new w0 _ 31
  have hsz : w0.heap.size ≤ (w0.alloc (.cells #[.bool false, .slice none 0 0, .slice none 0 0] 31)).drew.heap.size := HD1.out.size
  have HSZ := hid hsz
  clear hsz
  go_region_held3 (fun w' => w'.cell? ⟨w.heap.size, 3, none⟩ = some (.bool n1) ∧ w'.cell? ⟨w.heap.size, 4, none⟩ = some (.slice a1 ws.length c1))
    (first
      | with_reducible exact ⟨d3, d4⟩
      | with_reducible exact ⟨b3, b4⟩
      | with_reducible exact ⟨e3, e4⟩
      | with_reducible exact ⟨m3, m4⟩
      | with_reducible exact ⟨g3, g4⟩
      | with_reducible exact ⟨j3, j4⟩
      | with_reducible exact ⟨i3 _, i4 _⟩
      | with_reducible exact ⟨(cell_set3 (by omega) _ _ _ 3).trans g3, (cell_set3 (by omega) _ _ _ 4).trans g4⟩)
    (first
      | (go_at_call 79; (with_reducible refine (of_any _ ws w0.drew H1d.out HW.out (by have := HN.out; omega)).mono ?_); rintro e w1 ⟨vn, rfl, hv, hb⟩; obtain ⟨an, cn, rfl⟩ := hv.shape; have HV := hid hv; have HB1 : Hid (Below w0.heap.size w0 w1) := hid (HD0.out.trans hb); have e3 := (HB1.out.cell (p := ⟨w.heap.size, 3, none⟩) HP.out.lt).trans h3; have e4 := (HB1.out.cell (p := ⟨w.heap.size, 4, none⟩) HP.out.lt).trans h4; have l1 := Nat.lt_of_lt_of_le HP.out.lt HB1.out.size; have m3 : (w1.alloc (.cells #[.bool false, .slice none 0 0, .slice none 0 0] 31)).cell? ⟨w.heap.size, 3, none⟩ = some (.bool n1) := (World.cell?_alloc_lt w1 _ _ l1).trans e3; have m4 : (w1.alloc (.cells #[.bool false, .slice none 0 0, .slice none 0 0] 31)).cell? ⟨w.heap.size, 4, none⟩ = some (.slice a1 ws.length c1) := (World.cell?_alloc_lt w1 _ _ l1).trans e4; have HVb : Hid (Nt (w1.alloc (.cells #[.bool false, .slice none 0 0, .slice none 0 0] 31)) _ _) := hid (HV.out.below ((Below.refl _ _).alloc (Nat.le_refl _) _) (Nat.le_refl _)); clear hv hb)
      | (go_at_call 79; (with_reducible refine (of_any _ ws (w0.alloc (.cells #[.bool false, .slice none 0 0, .slice none 0 0] 31)).drew H1b.out HW.out (by have := HN.out; omega)).mono ?_); rintro e w1 ⟨vn, rfl, hv, hb⟩; obtain ⟨an, cn, rfl⟩ := hv.shape; have HV := hid hv; have HB1 : Hid (Below w0.heap.size w0 w1) := hid (HD1.out.trans (hb.mono HSZ.out)); have HK1 := hid (HK0.out.below hb HK0.out.lt); have e3 := (HB1.out.cell (p := ⟨w.heap.size, 3, none⟩) HP.out.lt).trans h3; have e4 := (HB1.out.cell (p := ⟨w.heap.size, 4, none⟩) HP.out.lt).trans h4; clear hv hb)
      | (go_at_call 34; (with_reducible refine (whole_h n1 _ _ w1 HV.out).mono ?_); rintro e w2 ⟨s0, u1, u2, rfl, HS0, hu1, hu2, hb⟩; obtain ⟨p1, q1, rfl⟩ := hu1.shape; obtain ⟨p2, q2, rfl⟩ := hu2.shape; have HU1 := hid hu1; have HU2 := hid hu2; have HB2 : Hid (Below w0.heap.size w0 w2) := hid (below_next HB1.out hb); have g3 := (HB2.out.cell (p := ⟨w.heap.size, 3, none⟩) HP.out.lt).trans h3; have g4 := (HB2.out.cell (p := ⟨w.heap.size, 4, none⟩) HP.out.lt).trans h4; have l2 := Nat.lt_of_lt_of_le HP.out.lt HB2.out.size; have i3 : ∀ c, (w2.alloc (.cells c 31)).cell? ⟨w.heap.size, 3, none⟩ = some (.bool n1) := fun c => (World.cell?_alloc_lt w2 _ _ l2).trans g3; have i4 : ∀ c, (w2.alloc (.cells c 31)).cell? ⟨w.heap.size, 4, none⟩ = some (.slice a1 ws.length c1) := fun c => (World.cell?_alloc_lt w2 _ _ l2).trans g4; (first | (have HK2 := hid (HK1.out.below hb HK1.out.lt); obtain ⟨k0, k1, k2, kf0, kf1, kf2⟩ := HK2.out.three) | skip); clear hu1 hu2 hb)
      | (go_at_call 34; (with_reducible refine (whole_h n1 _ _ (w1.alloc (.cells #[.bool false, .slice none 0 0, .slice none 0 0] 31)) HVb.out).mono ?_); rintro e w2 ⟨s0, u1, u2, rfl, HS0, hu1, hu2, hb⟩; obtain ⟨p1, q1, rfl⟩ := hu1.shape; obtain ⟨p2, q2, rfl⟩ := hu2.shape; have HU1 := hid hu1; have HU2 := hid hu2; have HB2 : Hid (Below w0.heap.size w0 w2) := hid (below_next HB1.out (below_over hb)); have g3 := (HB2.out.cell (p := ⟨w.heap.size, 3, none⟩) HP.out.lt).trans h3; have g4 := (HB2.out.cell (p := ⟨w.heap.size, 4, none⟩) HP.out.lt).trans h4; have HK2 : Hid (Blk w2 w1.heap.size #[.bool false, .slice none 0 0, .slice none 0 0] 31) := hid ((blk_new w1 _ 31).below hb (blk_new w1 #[.bool false, .slice none 0 0, .slice none 0 0] 31).lt); obtain ⟨k0, k1, k2, kf0, kf1, kf2⟩ := HK2.out.three; clear hu1 hu2 hb))
  have HVB : Hid (Blk (w2.alloc (.cells #[.bool s0, .slice p1 (dg 65536 (val 18446744073709551616 ws)).length q1, .slice p2 (dg 65536 1).length q2] 31)) w2.heap.size #[.bool s0, .slice p1 (dg 65536 (val 18446744073709551616 ws)).length q1, .slice p2 (dg 65536 1).length q2] 31) := blk_new w2 _ 31
  have HBW : Hid (Below w0.heap.size w0 (w2.alloc (.cells #[.bool s0, .slice p1 (dg 65536 (val 18446744073709551616 ws)).length q1, .slice p2 (dg 65536 1).length q2] 31))) := HB2.out.alloc HB2.out.size _
  have HX : Hid (w0.heap.size ≤ w2.heap.size) := HB2.out.size
  have HUf := hid (HU1.out.below ((Below.refl _ _).alloc (Nat.le_refl _) (.cells #[.bool s0, .slice p1 (dg 65536 (val 18446744073709551616 ws)).length q1, .slice p2 (dg 65536 1).length q2] 31)) (Nat.le_refl _))
  have HUg := hid (HU2.out.below ((Below.refl _ _).alloc (Nat.le_refl _) (.cells #[.bool s0, .slice p1 (dg 65536 (val 18446744073709551616 ws)).length q1, .slice p2 (dg 65536 1).length q2] 31)) (Nat.le_refl _))
  clear i3 i4 m3 m4 HU1 HU2 HB2
  generalize (w2.alloc (.cells #[.bool s0, .slice p1 (dg 65536 (val 18446744073709551616 ws)).length q1, .slice p2 (dg 65536 1).length q2] 31)) = W at *
  generalize w2.heap.size = X at *
  rotate_left
  have HVB : Hid (Blk (((w2.setCell ⟨w1.heap.size, 0, none⟩ (.bool s0)).setCell ⟨w1.heap.size, 1, none⟩ (.slice p1 (dg 65536 (val 18446744073709551616 ws)).length q1)).setCell ⟨w1.heap.size, 2, none⟩ (.slice p2 (dg 65536 1).length q2)) w1.heap.size #[.bool s0, .slice p1 (dg 65536 (val 18446744073709551616 ws)).length q1, .slice p2 (dg 65536 1).length q2] 31) := by
    have := ((HK2.out.set 0 (.bool s0)).set 1 (.slice p1 (dg 65536 (val 18446744073709551616 ws)).length q1)).set 2 (.slice p2 (dg 65536 1).length q2)
    refine hid ?_
    simpa using this
  have HX : Hid (w0.heap.size ≤ w1.heap.size) := HB1.out.size
  have HBW : Hid (Below w0.heap.size w0 (((w2.setCell ⟨w1.heap.size, 0, none⟩ (.bool s0)).setCell ⟨w1.heap.size, 1, none⟩ (.slice p1 (dg 65536 (val 18446744073709551616 ws)).length q1)).setCell ⟨w1.heap.size, 2, none⟩ (.slice p2 (dg 65536 1).length q2))) := ((HB2.out.setCell (p := ⟨w1.heap.size, 0, none⟩) HX.out _).setCell (p := ⟨w1.heap.size, 1, none⟩) HX.out _).setCell (p := ⟨w1.heap.size, 2, none⟩) HX.out _
  have HUf := hid (HU1.out.set3 HK2.out (by decide) (.bool s0) (.slice p1 (dg 65536 (val 18446744073709551616 ws)).length q1) (.slice p2 (dg 65536 1).length q2))
  have HUg := hid (HU2.out.set3 HK2.out (by decide) (.bool s0) (.slice p1 (dg 65536 (val 18446744073709551616 ws)).length q1) (.slice p2 (dg 65536 1).length q2))
  clear k0 k1 k2 kf0 kf1 kf2 HU1 HU2 HB2 HK2
  generalize (((w2.setCell ⟨w1.heap.size, 0, none⟩ (.bool s0)).setCell ⟨w1.heap.size, 1, none⟩ (.slice p1 (dg 65536 (val 18446744073709551616 ws)).length q1)).setCell ⟨w1.heap.size, 2, none⟩ (.slice p2 (dg 65536 1).length q2)) = W at *
  obtain ⟨X, hX⟩ : ∃ X, w1.heap.size = X := ⟨_, rfl⟩
  rw [hX] at HVB HX
  rw [hX]
  rotate_left
  have HVB : Hid (Blk (((w2.setCell ⟨w0.heap.size, 0, none⟩ (.bool s0)).setCell ⟨w0.heap.size, 1, none⟩ (.slice p1 (dg 65536 (val 18446744073709551616 ws)).length q1)).setCell ⟨w0.heap.size, 2, none⟩ (.slice p2 (dg 65536 1).length q2)) w0.heap.size #[.bool s0, .slice p1 (dg 65536 (val 18446744073709551616 ws)).length q1, .slice p2 (dg 65536 1).length q2] 31) := by
    have := ((HK2.out.set 0 (.bool s0)).set 1 (.slice p1 (dg 65536 (val 18446744073709551616 ws)).length q1)).set 2 (.slice p2 (dg 65536 1).length q2)
    refine hid ?_
    simpa using this
  have HX : Hid (w0.heap.size ≤ w0.heap.size) := Nat.le_refl _
  have HBW : Hid (Below w0.heap.size w0 (((w2.setCell ⟨w0.heap.size, 0, none⟩ (.bool s0)).setCell ⟨w0.heap.size, 1, none⟩ (.slice p1 (dg 65536 (val 18446744073709551616 ws)).length q1)).setCell ⟨w0.heap.size, 2, none⟩ (.slice p2 (dg 65536 1).length q2))) := ((HB2.out.setCell (p := ⟨w0.heap.size, 0, none⟩) HX.out _).setCell (p := ⟨w0.heap.size, 1, none⟩) HX.out _).setCell (p := ⟨w0.heap.size, 2, none⟩) HX.out _
  have HUf := hid (HU1.out.set3 HK2.out (by decide) (.bool s0) (.slice p1 (dg 65536 (val 18446744073709551616 ws)).length q1) (.slice p2 (dg 65536 1).length q2))
  have HUg := hid (HU2.out.set3 HK2.out (by decide) (.bool s0) (.slice p1 (dg 65536 (val 18446744073709551616 ws)).length q1) (.slice p2 (dg 65536 1).length q2))
  clear k0 k1 k2 kf0 kf1 kf2 HU1 HU2 HB2 HK2
  generalize (((w2.setCell ⟨w0.heap.size, 0, none⟩ (.bool s0)).setCell ⟨w0.heap.size, 1, none⟩ (.slice p1 (dg 65536 (val 18446744073709551616 ws)).length q1)).setCell ⟨w0.heap.size, 2, none⟩ (.slice p2 (dg 65536 1).length q2)) = W at *
  obtain ⟨X, hX⟩ : ∃ X, w0.heap.size = X := ⟨_, rfl⟩
  rw [hX] at HVB HX
  rw [hX]
  rotate_left
  all_goals (
    have HPW := hid (HP.out.below HBW.out HP.out.lt)
    have HRW := hid (HR.out.below HBW.out HR.out.lt)
    have H1W := hid (H1.out.below HBW.out (Nat.le_refl _))
    have HBT := hid (below_next HB.out HBW.out)
    have HLN : Hid ((dg 65536 (val 18446744073709551616 ws)).length ≤ 100000) := hid (of_len HW.out HN.out)
    have hXR : X ≠ w.heap.size + 1 := by have := HX.out; have := HR.out.lt; omega
    have hPR : w.heap.size ≠ w.heap.size + 1 := by omega
    clear HP HR H1 HBW d3 d4 b3 b4 e3 e4 g3 g4 h3 h4
    by_cases hP : n1 = (s0 && decide (val 18446744073709551616 ws ≠ 0)) ∧ ws = dg 18446744073709551616 (val 18446744073709551616 ws)
    · have HPP := hid hP
      clear hP
      rcases Nat.eq_zero_or_pos L2 with hl2 | hl2
      · subst hl2
        obtain ⟨c0, c1', c2', c3', c4', c5, c6, c7, c8, f0, f1, f2, f3, f4, f5, f6, f7, f8⟩ := HPW.out.nine
        obtain ⟨v0, v1, v2, _, _, _⟩ := HVB.out.three
        focus go_wp2_with fail
        clear c0 c1' c2' c3' c4' c5 c6 c7 c8 f0 f1 f2 f3 f4 f5 f6 f7 f8 v0 v1 v2
        have HPd : Hid (Blk W.drew _ _ 26) := HPW
        have HVd : Hid (Blk W.drew _ _ 31) := HVB
        have HRd : Hid (Blk W.drew _ _ 31) := HRW
        have ka := cells12 HPd.out HVd.out
        have H1d2 := hid (H1W.out.below ((Below.refl W.heap.size W).drew) (Nat.le_refl _))
        have HUd := hid (HUf.out.below ((Below.refl W.heap.size W).drew) (Nat.le_refl _))
        go_region_held3 (fun w' => w'.cell? ⟨w.heap.size, 0, none⟩ = some (.int .i64 3) ∧ w'.cell? ⟨w.heap.size, 1, none⟩ = some (.bool t) ∧ w'.cell? ⟨w.heap.size, 2, none⟩ = some (.string s) ∧ w'.cell? ⟨w.heap.size, 3, none⟩ = some (.bool n1) ∧ w'.cell? ⟨w.heap.size, 4, none⟩ = some (.slice a1 ws.length c1) ∧ w'.cell? ⟨w.heap.size, 5, none⟩ = some (.slice a2 0 c2) ∧ w'.cell? ⟨w.heap.size, 6, none⟩ = some (.bool n2) ∧ w'.cell? ⟨w.heap.size, 7, none⟩ = some (.slice a3 l3 c3) ∧ w'.cell? ⟨w.heap.size, 8, none⟩ = some (.slice a4 l4 c4) ∧ w'.cell? ⟨X, 0, none⟩ = some (.bool s0) ∧ w'.cell? ⟨X, 1, none⟩ = some (.slice p1 (dg 65536 (val 18446744073709551616 ws)).length q1) ∧ w'.cell? ⟨X, 2, none⟩ = some (.slice p2 (dg 65536 1).length q2))
          (first
            | with_reducible exact ka
            | with_reducible exact kb
            | with_reducible exact kc
            | with_reducible exact cells12 (HPf.out.far3 hPR _ _ _) (HVf.out.far3 hXR _ _ _))
          (first
            | (go_at_call 92; (with_reducible refine (isNumber_t n1 s0 _ _ ws _ W.drew H1d2.out HUd.out HLN.out HPP.out).mono ?_); rintro e W1 ⟨rfl, hb⟩; have HPe := hid (HPd.out.below hb HPd.out.lt); have HVe := hid (HVd.out.below hb HVd.out.lt); have kb := cells12 HPe.out HVe.out; have HRe := hid (HRd.out.below hb HRd.out.lt); have HBe := hid ((Below.refl W.heap.size W).drew.trans hb); clear hb)
            | (go_at_call 93; refine (rest_q _ _ _ _ _ _ _ _ _ _ _ _ _ _ _ _ _ _).mono ?_; rintro e W2 ⟨ok, rfl, HQ, hb⟩; have HPf := hid (HPe.out.below hb HPe.out.lt); have HVf := hid (HVe.out.below hb HVe.out.lt); have kc := cells12 HPf.out HVf.out; have HRf := hid (HRe.out.below hb HRe.out.lt); obtain ⟨r0, r1, r2, rf0, rf1, rf2⟩ := HRf.out.three; have HBf := hid (below_next HBe.out hb); clear hb))
        go_wp2_with fail
        refine bodyPost_ret (v := .tuple #[.agg #[.bool s0, .slice p1 (dg 65536 (val 18446744073709551616 ws)).length q1, .slice p2 (dg 65536 1).length q2], .bool ok]) (by simp [results, Tryz.results51, go_sem, r0, r1, r2]) rfl ⟨_, _, _, _, rfl, HS0, hid ?_, hid ?_, ⟨?_, ?_⟩, ?_⟩
        · exact fun _ => ⟨by rw [HPP.out.1, HS0.out]; cases n1 <;> cases decide (val 18446744073709551616 ws ≠ 0) <;> rfl, HPP.out.2⟩
        · exact fun h => HQ.out h.2.2.2
        · exact ((HUf.out.below HBf.out (Nat.le_refl _))).set3 HRf.out (by decide) _ _ _
        · exact ((HUg.out.below HBf.out (Nat.le_refl _))).set3 HRf.out (by decide) _ _ _
        · exact (((below_next HBT.out HBf.out).setCell (p := ⟨w.heap.size + 1, 0, none⟩) (Nat.le_succ _) _).setCell (p := ⟨w.heap.size + 1, 1, none⟩) (Nat.le_succ _) _).setCell (p := ⟨w.heap.size + 1, 2, none⟩) (Nat.le_succ _) _
      · have hl2' : ((L2 : Int) == 0) = false := by simp; omega
        obtain ⟨c0, c1', c2', c3', c4', c5, c6, c7, c8, f0, f1, f2, f3, f4, f5, f6, f7, f8⟩ := HPW.out.nine
        obtain ⟨v0, v1, v2, _, _, _⟩ := HVB.out.three
        focus go_wp2_with fail
        clear c0 c1' c2' c3' c4' c5 c6 c7 c8 f0 f1 f2 f3 f4 f5 f6 f7 f8 v0 v1 v2
        have HPd : Hid (Blk W.drew _ _ 26) := HPW
        have HVd : Hid (Blk W.drew _ _ 31) := HVB
        have HRd : Hid (Blk W.drew _ _ 31) := HRW
        have ka := cells12 HPd.out HVd.out
        have H1d2 := hid (H1W.out.below ((Below.refl W.heap.size W).drew) (Nat.le_refl _))
        have HUd := hid (HUf.out.below ((Below.refl W.heap.size W).drew) (Nat.le_refl _))
        refine wp_region_held_drew (S := fun w' => w'.cell? ⟨w.heap.size, 0, none⟩ = some (.int .i64 3) ∧ w'.cell? ⟨w.heap.size, 1, none⟩ = some (.bool t) ∧ w'.cell? ⟨w.heap.size, 2, none⟩ = some (.string s) ∧ w'.cell? ⟨w.heap.size, 3, none⟩ = some (.bool n1) ∧ w'.cell? ⟨w.heap.size, 4, none⟩ = some (.slice a1 ws.length c1) ∧ w'.cell? ⟨w.heap.size, 5, none⟩ = some (.slice a2 L2 c2) ∧ w'.cell? ⟨w.heap.size, 6, none⟩ = some (.bool n2) ∧ w'.cell? ⟨w.heap.size, 7, none⟩ = some (.slice a3 l3 c3) ∧ w'.cell? ⟨w.heap.size, 8, none⟩ = some (.slice a4 l4 c4) ∧ w'.cell? ⟨X, 0, none⟩ = some (.bool s0) ∧ w'.cell? ⟨X, 1, none⟩ = some (.slice p1 (dg 65536 (val 18446744073709551616 ws)).length q1) ∧ w'.cell? ⟨X, 2, none⟩ = some (.slice p2 (dg 65536 1).length q2)) (by kernel_rfl) ka (fun hHeld => ?_)
        refine wpAnyH_take (i := 0) (v := ?_) rfl (by kernel_rfl) (by kernel_rfl) (by kernel_rfl) (fun _ _ _ h => h) (Or.inl ⟨by rfl, ?_⟩) (by assumption) ?_
        rotate_left
        · intro w hSw
          try dsimp only at hSw
          go_simp
          try with_reducible rfl
        try simp only [Act.put, List.setIfInBounds_toArray]
        refine wpAnyH_take (i := 1) (v := ?_) rfl (by kernel_rfl) (by kernel_rfl) (by kernel_rfl) (fun _ _ _ h => h) (Or.inl ⟨by rfl, ?_⟩) (by assumption) ?_
        rotate_left
        · intro w hSw
          try dsimp only at hSw
          go_simp
          try with_reducible rfl
        try simp only [Act.put]
        refine wpAnyH_take (i := 2) (v := ?_) rfl (by kernel_rfl) (by kernel_rfl) (by kernel_rfl) (fun _ _ _ h => h) (Or.inl ⟨by rfl, ?_⟩) (by assumption) ?_
        rotate_left
        · intro w hSw
          try dsimp only at hSw
          go_simp
          try with_reducible rfl
        try simp only [Act.put]
        refine wpAnyH_take (i := 3) (v := ?_) rfl (by kernel_rfl) (by kernel_rfl) (by kernel_rfl) (fun _ _ _ h => h) (Or.inl ⟨by rfl, ?_⟩) (by assumption) ?_
        rotate_left
        · intro w hSw
          try dsimp only at hSw
          go_simp
          try with_reducible rfl
        try simp only [Act.put]
        refine wpAnyH_take (i := 4) (v := ?_) rfl (by kernel_rfl) (by kernel_rfl) (by kernel_rfl) (fun _ _ _ h => h) (Or.inl ⟨by rfl, ?_⟩) (by assumption) ?_
        rotate_left
        · intro w hSw
          try dsimp only at hSw
          go_simp
          try with_reducible rfl
        try simp only [Act.put]
        refine wpAnyH_take (i := 5) (v := ?_) rfl (by kernel_rfl) (by kernel_rfl) (by kernel_rfl) (fun _ _ _ h => h) (Or.inl ⟨by rfl, ?_⟩) (by assumption) ?_
        rotate_left
        · intro w hSw
          try dsimp only at hSw
          go_simp
          try with_reducible rfl
        try simp only [Act.put]
        refine wpAnyH_take (i := 6) (v := ?_) rfl (by kernel_rfl) (by kernel_rfl) (by kernel_rfl) (fun _ _ _ h => h) (Or.inl ⟨by rfl, ?_⟩) (by assumption) ?_
        rotate_left
        · intro w hSw
          try dsimp only at hSw
          go_simp
          try with_reducible rfl
        try simp only [Act.put]
        refine wpAnyH_ready (rs := [7]) (by kernel_rfl) (by simp) ?_
        refine AllReadyH.cons rfl (fun K hK => ?_) AllReadyH.nil
        go_simp
        (with_reducible refine (isNumber_t n1 s0 _ _ ws _ W.drew H1d2.out HUd.out HLN.out HPP.out).mono ?_); rintro e W1 ⟨rfl, hb⟩; have HPe := hid (HPd.out.below hb HPd.out.lt); have HVe := hid (HVd.out.below hb HVd.out.lt); have kb := cells12 HPe.out HVe.out; have HRe := hid (HRd.out.below hb HRd.out.lt); have HBe := hid ((Below.refl W.heap.size W).drew.trans hb); obtain ⟨r0, r1, r2, rf0, rf1, rf2⟩ := HRe.out.three; clear hb
        go_wp2_with fail
        refine hK.out _ _ kb (fun _ => ?_)
        clear hK K
        refine wpAnyH_take (i := 8) (v := ?_) rfl (by kernel_rfl) (by kernel_rfl) (by kernel_rfl) (fun _ _ _ h => h) (Or.inl ⟨by rfl, ?_⟩) (by assumption) ?_
        rotate_left
        · intro w hSw
          try dsimp only at hSw
          go_simp
          try with_reducible rfl
        try simp only [Act.put]
        refine wpAnyH_take (i := 9) (v := ?_) rfl (by kernel_rfl) (by kernel_rfl) (by kernel_rfl) (fun _ _ _ h => h) (Or.inl ⟨by rfl, ?_⟩) (by assumption) ?_
        rotate_left
        · intro w hSw
          try dsimp only at hSw
          go_simp
          try with_reducible rfl
        try simp only [Act.put]
        refine wpAnyH_take (i := 10) (v := ?_) rfl (by kernel_rfl) (by kernel_rfl) (by kernel_rfl) (fun _ _ _ h => h) (Or.inl ⟨by rfl, ?_⟩) (by assumption) ?_
        rotate_left
        · intro w hSw
          try dsimp only at hSw
          go_simp
          try with_reducible rfl
        try simp only [Act.put]
        refine wpAnyH_take (i := 11) (v := ?_) rfl (by kernel_rfl) (by kernel_rfl) (by kernel_rfl) (fun _ _ _ h => h) (Or.inl ⟨by rfl, ?_⟩) (by assumption) ?_
        rotate_left
        · intro w hSw
          try dsimp only at hSw
          go_simp
          try with_reducible rfl
        try simp only [Act.put]
        refine wpAnyH_take (i := 12) (v := ?_) rfl (by kernel_rfl) (by kernel_rfl) (by kernel_rfl) (fun _ _ _ h => h) (Or.inl ⟨by rfl, ?_⟩) (by assumption) ?_
        rotate_left
        · intro w hSw
          try dsimp only at hSw
          go_simp
          try with_reducible rfl
        try simp only [Act.put]
        refine wpAnyH_take (i := 13) (v := ?_) rfl (by kernel_rfl) (by kernel_rfl) (by kernel_rfl) (fun _ _ _ h => h) (Or.inl ⟨by rfl, ?_⟩) (by assumption) ?_
        rotate_left
        · intro w hSw
          try dsimp only at hSw
          go_simp
          try with_reducible rfl
        try simp only [Act.put]
        refine wpAnyH_take (i := 14) (v := ?_) rfl (by kernel_rfl) (by kernel_rfl) (by kernel_rfl) (fun _ _ _ h => h) (Or.inl ⟨by rfl, ?_⟩) (by assumption) ?_
        rotate_left
        · intro w hSw
          try dsimp only at hSw
          go_simp
          try with_reducible rfl
        try simp only [Act.put]
        refine wpAnyH_take (i := 15) (v := undef) rfl (by kernel_rfl) (by kernel_rfl) (by kernel_rfl) (fun _ _ _ h => h) (Or.inr ⟨by kernel_rfl, rfl⟩) (by assumption) ?_
        try simp only [Act.put]
        refine wpAnyH_take (i := 16) (v := undef) rfl (by kernel_rfl) (by kernel_rfl) (by kernel_rfl) (fun _ _ _ h => h) (Or.inr ⟨by kernel_rfl, rfl⟩) (by assumption) ?_
        try simp only [Act.put]
        refine wpAnyH_take (i := 17) (v := ?_) rfl (by kernel_rfl) (by kernel_rfl) (by kernel_rfl) (fun _ _ _ h => h) (Or.inl ⟨by rfl, ?_⟩) (by assumption) ?_
        rotate_left
        · intro w hSw
          try dsimp only at hSw
          go_simp
          try with_reducible rfl
        try simp only [Act.put]
        refine wpAnyH_ready (rs := [18]) (by kernel_rfl) (by simp) ?_
        refine AllReadyH.cons rfl (fun K hK => ?_) AllReadyH.nil
        go_simp
        refine hK.out _ _ (cells12 (HPe.out.far3 hPR _ _ _) (HVe.out.far3 hXR _ _ _)) (fun _ => ?_)
        clear hK K
        refine wpAnyH_take (i := 19) (v := ?_) rfl (by kernel_rfl) (by kernel_rfl) (by kernel_rfl) (fun _ _ _ h => h) (Or.inl ⟨by rfl, ?_⟩) (by assumption) ?_
        rotate_left
        · intro w hSw
          try dsimp only at hSw
          go_simp
          try with_reducible rfl
        simp only [Act.put, List.getElem_toArray, List.getElem_cons_succ, List.getElem_cons_zero, List.setIfInBounds_toArray, List.set_cons_succ, List.set_cons_zero]
        refine wpAnyH_done (by kernel_rfl) ?_ _
        go_wp2_with fail
        refine bodyPost_ret (v := .tuple #[.agg #[.bool s0, .slice p1 (dg 65536 (val 18446744073709551616 ws)).length q1, .slice p2 (dg 65536 1).length q2], .bool false]) (by simp [results, Tryz.results51, go_sem, r0, r1, r2]) rfl ⟨_, _, _, _, rfl, HS0, hid ?_, hid ?_, ⟨?_, ?_⟩, ?_⟩
        · exact fun h => absurd h (by decide)
        · exact fun h => absurd h.2.2.2.1 (by omega)
        · exact ((HUf.out.below HBe.out (Nat.le_refl _))).set3 HRe.out (by decide) _ _ _
        · exact ((HUg.out.below HBe.out (Nat.le_refl _))).set3 HRe.out (by decide) _ _ _
        · exact (((below_next HBT.out HBe.out).setCell (p := ⟨w.heap.size + 1, 0, none⟩) (Nat.le_succ _) _).setCell (p := ⟨w.heap.size + 1, 1, none⟩) (Nat.le_succ _) _).setCell (p := ⟨w.heap.size + 1, 2, none⟩) (Nat.le_succ _) _

    · have HPP := hid hP
      clear hP
      obtain ⟨c0, c1', c2', c3', c4', c5, c6, c7, c8, f0, f1, f2, f3, f4, f5, f6, f7, f8⟩ := HPW.out.nine
      obtain ⟨v0, v1, v2, _, _, _⟩ := HVB.out.three
      focus go_wp2_with fail
      clear c0 c1' c2' c3' c4' c5 c6 c7 c8 f0 f1 f2 f3 f4 f5 f6 f7 f8 v0 v1 v2
      have HPd : Hid (Blk W.drew _ _ 26) := HPW
      have HVd : Hid (Blk W.drew _ _ 31) := HVB
      have HRd : Hid (Blk W.drew _ _ 31) := HRW
      have ka := cells12 HPd.out HVd.out
      have H1d2 := hid (H1W.out.below ((Below.refl W.heap.size W).drew) (Nat.le_refl _))
      have HUd := hid (HUf.out.below ((Below.refl W.heap.size W).drew) (Nat.le_refl _))
      refine wp_region_held_drew (S := fun w' => w'.cell? ⟨w.heap.size, 0, none⟩ = some (.int .i64 3) ∧ w'.cell? ⟨w.heap.size, 1, none⟩ = some (.bool t) ∧ w'.cell? ⟨w.heap.size, 2, none⟩ = some (.string s) ∧ w'.cell? ⟨w.heap.size, 3, none⟩ = some (.bool n1) ∧ w'.cell? ⟨w.heap.size, 4, none⟩ = some (.slice a1 ws.length c1) ∧ w'.cell? ⟨w.heap.size, 5, none⟩ = some (.slice a2 L2 c2) ∧ w'.cell? ⟨w.heap.size, 6, none⟩ = some (.bool n2) ∧ w'.cell? ⟨w.heap.size, 7, none⟩ = some (.slice a3 l3 c3) ∧ w'.cell? ⟨w.heap.size, 8, none⟩ = some (.slice a4 l4 c4) ∧ w'.cell? ⟨X, 0, none⟩ = some (.bool s0) ∧ w'.cell? ⟨X, 1, none⟩ = some (.slice p1 (dg 65536 (val 18446744073709551616 ws)).length q1) ∧ w'.cell? ⟨X, 2, none⟩ = some (.slice p2 (dg 65536 1).length q2)) (by kernel_rfl) ka (fun hHeld => ?_)
      refine wpAnyH_take (i := 0) (v := ?_) rfl (by kernel_rfl) (by kernel_rfl) (by kernel_rfl) (fun _ _ _ h => h) (Or.inl ⟨by rfl, ?_⟩) (by assumption) ?_
      rotate_left
      · intro w hSw
        try dsimp only at hSw
        go_simp
        try with_reducible rfl
      try simp only [Act.put, List.setIfInBounds_toArray]
      refine wpAnyH_take (i := 1) (v := ?_) rfl (by kernel_rfl) (by kernel_rfl) (by kernel_rfl) (fun _ _ _ h => h) (Or.inl ⟨by rfl, ?_⟩) (by assumption) ?_
      rotate_left
      · intro w hSw
        try dsimp only at hSw
        go_simp
        try with_reducible rfl
      try simp only [Act.put]
      refine wpAnyH_take (i := 2) (v := ?_) rfl (by kernel_rfl) (by kernel_rfl) (by kernel_rfl) (fun _ _ _ h => h) (Or.inl ⟨by rfl, ?_⟩) (by assumption) ?_
      rotate_left
      · intro w hSw
        try dsimp only at hSw
        go_simp
        try with_reducible rfl
      try simp only [Act.put]
      refine wpAnyH_take (i := 3) (v := ?_) rfl (by kernel_rfl) (by kernel_rfl) (by kernel_rfl) (fun _ _ _ h => h) (Or.inl ⟨by rfl, ?_⟩) (by assumption) ?_
      rotate_left
      · intro w hSw
        try dsimp only at hSw
        go_simp
        try with_reducible rfl
      try simp only [Act.put]
      refine wpAnyH_take (i := 4) (v := ?_) rfl (by kernel_rfl) (by kernel_rfl) (by kernel_rfl) (fun _ _ _ h => h) (Or.inl ⟨by rfl, ?_⟩) (by assumption) ?_
      rotate_left
      · intro w hSw
        try dsimp only at hSw
        go_simp
        try with_reducible rfl
      try simp only [Act.put]
      refine wpAnyH_take (i := 5) (v := ?_) rfl (by kernel_rfl) (by kernel_rfl) (by kernel_rfl) (fun _ _ _ h => h) (Or.inl ⟨by rfl, ?_⟩) (by assumption) ?_
      rotate_left
      · intro w hSw
        try dsimp only at hSw
        go_simp
        try with_reducible rfl
      try simp only [Act.put]
      refine wpAnyH_take (i := 6) (v := ?_) rfl (by kernel_rfl) (by kernel_rfl) (by kernel_rfl) (fun _ _ _ h => h) (Or.inl ⟨by rfl, ?_⟩) (by assumption) ?_
      rotate_left
      · intro w hSw
        try dsimp only at hSw
        go_simp
        try with_reducible rfl
      try simp only [Act.put]
      refine wpAnyH_ready (rs := [7]) (by kernel_rfl) (by simp) ?_
      refine AllReadyH.cons rfl (fun K hK => ?_) AllReadyH.nil
      go_simp
      (with_reducible refine (isNumber_f n1 s0 _ _ ws _ W.drew H1d2.out HUd.out HLN.out HPP.out).mono ?_); rintro e W1 ⟨rfl, hb⟩; have HPe := hid (HPd.out.below hb HPd.out.lt); have HVe := hid (HVd.out.below hb HVd.out.lt); have kb := cells12 HPe.out HVe.out; have HRe := hid (HRd.out.below hb HRd.out.lt); have HBe := hid ((Below.refl W.heap.size W).drew.trans hb); obtain ⟨r0, r1, r2, rf0, rf1, rf2⟩ := HRe.out.three; clear hb
      go_wp2_with fail
      refine hK.out _ _ kb (fun _ => ?_)
      clear hK K
      refine wpAnyH_take (i := 8) (v := ?_) rfl (by kernel_rfl) (by kernel_rfl) (by kernel_rfl) (fun _ _ _ h => h) (Or.inl ⟨by rfl, ?_⟩) (by assumption) ?_
      rotate_left
      · intro w hSw
        try dsimp only at hSw
        go_simp
        try with_reducible rfl
      try simp only [Act.put]
      refine wpAnyH_take (i := 9) (v := undef) rfl (by kernel_rfl) (by kernel_rfl) (by kernel_rfl) (fun _ _ _ h => h) (Or.inr ⟨by kernel_rfl, rfl⟩) (by assumption) ?_
      try simp only [Act.put]
      refine wpAnyH_take (i := 10) (v := undef) rfl (by kernel_rfl) (by kernel_rfl) (by kernel_rfl) (fun _ _ _ h => h) (Or.inr ⟨by kernel_rfl, rfl⟩) (by assumption) ?_
      try simp only [Act.put]
      refine wpAnyH_take (i := 11) (v := undef) rfl (by kernel_rfl) (by kernel_rfl) (by kernel_rfl) (fun _ _ _ h => h) (Or.inr ⟨by kernel_rfl, rfl⟩) (by assumption) ?_
      try simp only [Act.put]
      refine wpAnyH_take (i := 12) (v := undef) rfl (by kernel_rfl) (by kernel_rfl) (by kernel_rfl) (fun _ _ _ h => h) (Or.inr ⟨by kernel_rfl, rfl⟩) (by assumption) ?_
      try simp only [Act.put]
      refine wpAnyH_take (i := 13) (v := ?_) rfl (by kernel_rfl) (by kernel_rfl) (by kernel_rfl) (fun _ _ _ h => h) (Or.inl ⟨by rfl, ?_⟩) (by assumption) ?_
      rotate_left
      · intro w hSw
        try dsimp only at hSw
        go_simp
        try with_reducible rfl
      try simp only [Act.put]
      refine wpAnyH_take (i := 14) (v := ?_) rfl (by kernel_rfl) (by kernel_rfl) (by kernel_rfl) (fun _ _ _ h => h) (Or.inl ⟨by rfl, ?_⟩) (by assumption) ?_
      rotate_left
      · intro w hSw
        try dsimp only at hSw
        go_simp
        try with_reducible rfl
      try simp only [Act.put]
      refine wpAnyH_take (i := 15) (v := undef) rfl (by kernel_rfl) (by kernel_rfl) (by kernel_rfl) (fun _ _ _ h => h) (Or.inr ⟨by kernel_rfl, rfl⟩) (by assumption) ?_
      try simp only [Act.put]
      refine wpAnyH_take (i := 16) (v := undef) rfl (by kernel_rfl) (by kernel_rfl) (by kernel_rfl) (fun _ _ _ h => h) (Or.inr ⟨by kernel_rfl, rfl⟩) (by assumption) ?_
      try simp only [Act.put]
      refine wpAnyH_take (i := 17) (v := ?_) rfl (by kernel_rfl) (by kernel_rfl) (by kernel_rfl) (fun _ _ _ h => h) (Or.inl ⟨by rfl, ?_⟩) (by assumption) ?_
      rotate_left
      · intro w hSw
        try dsimp only at hSw
        go_simp
        try with_reducible rfl
      try simp only [Act.put]
      refine wpAnyH_ready (rs := [18]) (by kernel_rfl) (by simp) ?_
      refine AllReadyH.cons rfl (fun K hK => ?_) AllReadyH.nil
      go_simp
      refine hK.out _ _ (cells12 (HPe.out.far3 hPR _ _ _) (HVe.out.far3 hXR _ _ _)) (fun _ => ?_)
      clear hK K
      refine wpAnyH_take (i := 19) (v := ?_) rfl (by kernel_rfl) (by kernel_rfl) (by kernel_rfl) (fun _ _ _ h => h) (Or.inl ⟨by rfl, ?_⟩) (by assumption) ?_
      rotate_left
      · intro w hSw
        try dsimp only at hSw
        go_simp
        try with_reducible rfl
      simp only [Act.put, List.getElem_toArray, List.getElem_cons_succ, List.getElem_cons_zero, List.setIfInBounds_toArray, List.set_cons_succ, List.set_cons_zero]
      refine wpAnyH_done (by kernel_rfl) ?_ _
      go_wp2_with fail
      refine bodyPost_ret (v := .tuple #[.agg #[.bool s0, .slice p1 (dg 65536 (val 18446744073709551616 ws)).length q1, .slice p2 (dg 65536 1).length q2], .bool false]) (by simp [results, Tryz.results51, go_sem, r0, r1, r2]) rfl ⟨_, _, _, _, rfl, HS0, hid ?_, hid ?_, ⟨?_, ?_⟩, ?_⟩
      · exact fun h => absurd h (by decide)
      · exact fun h => absurd ⟨by rw [h.1, HS0.out]; cases n1 <;> cases decide (val 18446744073709551616 ws ≠ 0) <;> rfl, h.2.1⟩ HPP.out
      · exact ((HUf.out.below HBe.out (Nat.le_refl _))).set3 HRe.out (by decide) _ _ _
      · exact ((HUg.out.below HBe.out (Nat.le_refl _))).set3 HRe.out (by decide) _ _ _
      · exact (((below_next HBT.out HBe.out).setCell (p := ⟨w.heap.size + 1, 0, none⟩) (Nat.le_succ _) _).setCell (p := ⟨w.heap.size + 1, 1, none⟩) (Nat.le_succ _) _).setCell (p := ⟨w.heap.size + 1, 2, none⟩) (Nat.le_succ _) _

    )
end Go.Proofs.YtocahcammjoffaaGreatDoor
