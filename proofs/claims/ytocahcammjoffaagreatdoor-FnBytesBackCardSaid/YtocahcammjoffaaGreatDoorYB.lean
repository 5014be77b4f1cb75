/- Walks and lemmas for the laws of this seat. -/
import Derived.Test.YtocahcammjoffaaGreatDoorL7
import Derived.Test.YtocahcammjoffaaGreatDoorYA
import Derived.Test.YtocahcammjoffaaGreatDoorS4
namespace Go.Proofs.YtocahcammjoffaaGreatDoor
open Go.RowKit Go.Dig
set_option maxRecDepth 100000
set_option maxHeartbeats 1000000 in
theorem integer_not (k : Int) (hk : k ≠ 3) (t : Bool) (s : ByteArray) (n1 n2 : Bool) (v1 v2 v3 v4 : Value) (w : World) :
    Calls Tryz.prog 51 #[.agg #[.int .i64 k, .bool t, .string s, .bool n1, v1, v2, .bool n2, v3, v4]] w fun e w' => e = .returned (.tuple #[.agg #[.bool false, .slice none 0 0, .slice none 0 0], .bool false]) ∧ Below w.heap.size w w' := by
  have hk' : (k != 3) = true := bne_iff_ne.2 hk
  go_enter Tryz.func51, Tryz.ntmps51
  go_wp2_with fail
  refine bodyPost_ret (v := .tuple #[.agg #[.bool false, .slice none 0 0, .slice none 0 0], .bool false]) (by simp [results, Tryz.results51, go_sem]) rfl ⟨rfl, ((Below.refl _ _).alloc (Nat.le_refl _) _).alloc (by simp) _⟩
set_option maxHeartbeats 1000000 in
theorem lawWhole_long (k : Int) (t : Bool) (s : ByteArray) (n1 n2 : Bool) (v2 v3 v4 : Value) (a1 : Option Addr) (L1 c1 : Nat) (w : World) (hl : 40 < L1) :
    Calls Tryz.prog 20 #[.agg #[.int .i64 k, .bool t, .string s, .bool n1, .slice a1 L1 c1, v2, .bool n2, v3, v4], .int .i64 40] w fun e w' => e = .returned (.tuple #[.agg #[.bool false, .slice none 0 0, .slice none 0 0], .bool false]) ∧ Below w.heap.size w w' := by
  go_enter Tryz.func20, Tryz.ntmps20
  go_wp2_with fail
  refine bodyPost_ret (v := .tuple #[.agg #[.bool false, .slice none 0 0, .slice none 0 0], .bool false]) (by simp [results, Tryz.results20, go_sem]) rfl ⟨rfl, ((Below.refl _ _).alloc (Nat.le_refl _) _).alloc (by simp) _⟩
set_option maxHeartbeats 1000000 in
theorem lawWhole_not (k : Int) (hk : k ≠ 3) (t : Bool) (s : ByteArray) (n1 n2 : Bool) (v2 v3 v4 : Value) (a1 : Option Addr) (L1 c1 : Nat) (w : World) (hl : L1 ≤ 40) :
    Calls Tryz.prog 20 #[.agg #[.int .i64 k, .bool t, .string s, .bool n1, .slice a1 L1 c1, v2, .bool n2, v3, v4], .int .i64 40] w fun e w' => e = .returned (.tuple #[.agg #[.bool false, .slice none 0 0, .slice none 0 0], .bool false]) ∧ Below w.heap.size w w' := by
  have HR : Hid (Blk ((w.alloc (.cells #[.int .i64 k, .bool t, .string s, .bool n1, .slice a1 L1 c1, v2, .bool n2, v3, v4] 26)).alloc (.cells #[.bool false, .slice none 0 0, .slice none 0 0] 31)) (w.heap.size + 1) #[.bool false, .slice none 0 0, .slice none 0 0] 31) := by
    have := blk_new (w.alloc (.cells #[.int .i64 k, .bool t, .string s, .bool n1, .slice a1 L1 c1, v2, .bool n2, v3, v4] 26)) #[.bool false, .slice none 0 0, .slice none 0 0] 31
    refine hid ?_
    simpa using this
  have HB : Hid (Below w.heap.size w ((w.alloc (.cells #[.int .i64 k, .bool t, .string s, .bool n1, .slice a1 L1 c1, v2, .bool n2, v3, v4] 26)).alloc (.cells #[.bool false, .slice none 0 0, .slice none 0 0] 31))) := ((Below.refl _ _).alloc (Nat.le_refl _) _).alloc (by simp) _
  go_enter Tryz.func20, Tryz.ntmps20
  go_wp2_with fail
  generalize (w.alloc (.cells #[.int .i64 k, .bool t, .string s, .bool n1, .slice a1 L1 c1, v2, .bool n2, v3, v4] 26)).alloc (.cells #[.bool false, .slice none 0 0, .slice none 0 0] 31) = w0 at *
  refine (integer_not k hk t s n1 n2 _ v2 v3 v4 _).mono ?_
  rintro e w1 ⟨rfl, hb⟩
  have HR1 := hid (HR.out.below hb HR.out.lt)
  have HB1 := hid (below_next HB.out hb)
  clear hb
  obtain ⟨r0, r1, r2, f0, f1, f2⟩ := HR1.out.three
  go_wp2_with fail
  refine bodyPost_ret (v := .tuple #[.agg #[.bool false, .slice none 0 0, .slice none 0 0], .bool false]) (by simp [results, Tryz.results20, go_sem, r0, r1, r2]) rfl ⟨rfl, ?_⟩
  exact ((HB1.out.setCell (p := ⟨w.heap.size + 1, 0, none⟩) (Nat.le_succ _) _).setCell (p := ⟨w.heap.size + 1, 1, none⟩) (Nat.le_succ _) _).setCell (p := ⟨w.heap.size + 1, 2, none⟩) (Nat.le_succ _) _
set_option maxHeartbeats 1000000 in
theorem lawWhole_3 (t : Bool) (s : ByteArray) (n1 n2 : Bool) (v1 : Value) (a2 a3 a4 : Option Addr) (L2 l3 l4 c2 c3 c4 : Nat) (ws : List Nat) (w : World) (h : Rd .u64 w v1 ws) (hw : ∀ x ∈ ws, x < 18446744073709551616) (hlen : ws.length ≤ 40) :
    Calls Tryz.prog 20 #[.agg #[.int .i64 3, .bool t, .string s, .bool n1, v1, .slice a2 L2 c2, .bool n2, .slice a3 l3 c3, .slice a4 l4 c4], .int .i64 40] w (IntP n1 ws (L2 = 0 ∧ t = false ∧ s = ByteArray.mk #[] ∧ n2 = false ∧ l3 = 0 ∧ l4 = 0) w) := by
  obtain ⟨a1, c1, rfl⟩ := h.shape
  have HR : Hid (Blk ((w.alloc (.cells #[.int .i64 3, .bool t, .string s, .bool n1, .slice a1 ws.length c1, .slice a2 L2 c2, .bool n2, .slice a3 l3 c3, .slice a4 l4 c4] 26)).alloc (.cells #[.bool false, .slice none 0 0, .slice none 0 0] 31)) (w.heap.size + 1) #[.bool false, .slice none 0 0, .slice none 0 0] 31) := by
    have := blk_new (w.alloc (.cells #[.int .i64 3, .bool t, .string s, .bool n1, .slice a1 ws.length c1, .slice a2 L2 c2, .bool n2, .slice a3 l3 c3, .slice a4 l4 c4] 26)) #[.bool false, .slice none 0 0, .slice none 0 0] 31
    refine hid ?_
    simpa using this
  have HB : Hid (Below w.heap.size w ((w.alloc (.cells #[.int .i64 3, .bool t, .string s, .bool n1, .slice a1 ws.length c1, .slice a2 L2 c2, .bool n2, .slice a3 l3 c3, .slice a4 l4 c4] 26)).alloc (.cells #[.bool false, .slice none 0 0, .slice none 0 0] 31))) := ((Below.refl _ _).alloc (Nat.le_refl _) _).alloc (by simp) _
  have H := hid (h.below HB.out (Nat.le_refl _))
  have HW := hid hw
  clear h hw
  go_enter Tryz.func20, Tryz.ntmps20
  go_wp2_with fail
  generalize ((w.alloc (.cells #[.int .i64 3, .bool t, .string s, .bool n1, .slice a1 ws.length c1, .slice a2 L2 c2, .bool n2, .slice a3 l3 c3, .slice a4 l4 c4] 26)).alloc (.cells #[.bool false, .slice none 0 0, .slice none 0 0] 31)) = w0 at *
  refine (integer_3 t s n1 n2 _ a2 a3 a4 L2 l3 l4 c2 c3 c4 ws _ H.out HW.out (by omega)).mono ?_
  rintro e w1 ⟨s0, u1, u2, ok, rfl, HS, HOK, HQ, hNt, hb⟩
  obtain ⟨p1, q1, rfl⟩ := hNt.1.shape
  obtain ⟨p2, q2, rfl⟩ := hNt.2.shape
  have HR1 := hid (HR.out.below hb HR.out.lt)
  have HB1 := hid (below_next HB.out hb)
  have HNT := hid hNt
  clear hb hNt
  obtain ⟨r0, r1, r2, f0, f1, f2⟩ := HR1.out.three
  go_wp2_with fail
  refine bodyPost_ret (v := .tuple #[.agg #[.bool s0, .slice p1 (dg 65536 (val 18446744073709551616 ws)).length q1, .slice p2 (dg 65536 1).length q2], .bool ok]) (by simp [results, Tryz.results20, go_sem, r0, r1, r2]) rfl ⟨_, _, _, _, rfl, HS, HOK, HQ, ?_, ?_⟩
  · obtain ⟨g1, g2⟩ := HNT.out
    exact ⟨g1.set3 HR1.out (by decide) _ _ _, g2.set3 HR1.out (by decide) _ _ _⟩
  · exact ((HB1.out.setCell (p := ⟨w.heap.size + 1, 0, none⟩) (Nat.le_succ _) _).setCell (p := ⟨w.heap.size + 1, 1, none⟩) (Nat.le_succ _) _).setCell (p := ⟨w.heap.size + 1, 2, none⟩) (Nat.le_succ _) _
end Go.Proofs.YtocahcammjoffaaGreatDoor
namespace Go.Proofs.YtocahcammjoffaaGreatDoor
open Go.RowKit Go.Dig
set_option maxRecDepth 100000
theorem integer_told (t1 : Bool) (ht : t1 = false) (v1 : Value) (N : Nat) (w : World) (h : Rt 44 .u64 w v1 (dg 18446744073709551616 N)) (hlen : (dg 18446744073709551616 N).length ≤ 1000) :
    Calls Tryz.prog 51 #[.agg #[.int .i64 3, .bool false, .string (ByteArray.mk #[]), .bool t1, v1, .slice none 0 0, .bool false, .slice none 0 0, .slice none 0 0]] w fun e w' => ∃ u1 u2, e = .returned (.tuple #[.agg #[.bool false, u1, u2], .bool true]) ∧ Nt w' u1 N ∧ Nt w' u2 1 ∧ Below w.heap.size w w' := by
  subst ht
  refine (integer_3 false (ByteArray.mk #[]) false false v1 none none none 0 0 0 0 0 0 (dg 18446744073709551616 N) w h.rd (dg_lt (by omega) N) hlen).mono ?_
  rintro e w1 ⟨s0, u1, u2, ok, rfl, HS, HOK, HQ, hNt, hb⟩
  rw [val_dg (by omega)] at hNt
  have hs : s0 = false := by rw [HS.out]; rfl
  have hok : ok = true := HQ.out ⟨hs.symm, by rw [val_dg (by omega)], rfl, rfl, rfl, rfl, rfl, rfl⟩
  subst hs hok
  exact ⟨u1, u2, rfl, hNt.1, hNt.2, hb⟩
set_option maxHeartbeats 1000000 in
theorem isInt_told (t1 : Bool) (ht : t1 = false) (v1 u1 u2 : Value) (N : Nat) (w : World) (h : Rt 44 .u64 w v1 (dg 18446744073709551616 N)) (hlen : (dg 18446744073709551616 N).length ≤ 1000) (h1 : Nt w u1 N) (h2 : Nt w u2 1) :
    Calls Tryz.prog 31 #[.agg #[.int .i64 3, .bool false, .string (ByteArray.mk #[]), .bool t1, v1, .slice none 0 0, .bool false, .slice none 0 0, .slice none 0 0], .agg #[.bool false, u1, u2]] w fun e w' => e = .returned (.bool true) ∧ Below w.heap.size w w' := by
  obtain ⟨a1, c1, rfl⟩ := h.shape
  obtain ⟨p1, q1, rfl⟩ := h1.shape
  obtain ⟨p2, q2, rfl⟩ := h2.shape
  have HVV : Hid (Blk ((w.alloc (.cells #[.int .i64 3, .bool false, .string (ByteArray.mk #[]), .bool t1, .slice a1 (dg 18446744073709551616 N).length c1, .slice none 0 0, .bool false, .slice none 0 0, .slice none 0 0] 26)).alloc (.cells #[.bool false, .slice p1 (dg 65536 N).length q1, .slice p2 (dg 65536 1).length q2] 31)) (w.heap.size + 1) #[.bool false, .slice p1 (dg 65536 N).length q1, .slice p2 (dg 65536 1).length q2] 31) := by
    have := blk_new (w.alloc (.cells #[.int .i64 3, .bool false, .string (ByteArray.mk #[]), .bool t1, .slice a1 (dg 18446744073709551616 N).length c1, .slice none 0 0, .bool false, .slice none 0 0, .slice none 0 0] 26)) #[.bool false, .slice p1 (dg 65536 N).length q1, .slice p2 (dg 65536 1).length q2] 31
    refine hid ?_
    simpa using this
  have HB : Hid (Below w.heap.size w ((w.alloc (.cells #[.int .i64 3, .bool false, .string (ByteArray.mk #[]), .bool t1, .slice a1 (dg 18446744073709551616 N).length c1, .slice none 0 0, .bool false, .slice none 0 0, .slice none 0 0] 26)).alloc (.cells #[.bool false, .slice p1 (dg 65536 N).length q1, .slice p2 (dg 65536 1).length q2] 31))) := ((Below.refl _ _).alloc (Nat.le_refl _) _).alloc (by simp) _
  have H := hid (h.below HB.out (Nat.le_refl _))
  have H1 := hid (h1.below HB.out (Nat.le_refl _))
  have H2 := hid (h2.below HB.out (Nat.le_refl _))
  have HT := hid ht
  clear h h1 h2 ht
  go_enter Tryz.func31, Tryz.ntmps31
  go_wp2_with fail
  generalize ((w.alloc (.cells #[.int .i64 3, .bool false, .string (ByteArray.mk #[]), .bool t1, .slice a1 (dg 18446744073709551616 N).length c1, .slice none 0 0, .bool false, .slice none 0 0, .slice none 0 0] 26)).alloc (.cells #[.bool false, .slice p1 (dg 65536 N).length q1, .slice p2 (dg 65536 1).length q2] 31)) = w0 at *
  refine (integer_told t1 HT.out _ N _ H.out hlen).mono ?_
  rintro e w1 ⟨x1, x2, rfl, g1, g2, hb⟩
  obtain ⟨p3, q3, rfl⟩ := g1.shape
  obtain ⟨p4, q4, rfl⟩ := g2.shape
  have HV1 := hid (HVV.out.below hb HVV.out.lt)
  have HB1 := hid (below_next HB.out hb)
  have G1 := hid g1
  have G2 := hid g2
  have K1 := hid (H1.out.below hb (Nat.le_refl _))
  have K2 := hid (H2.out.below hb (Nat.le_refl _))
  clear g1 g2 hb
  obtain ⟨r0, r1, r2, _, _, _⟩ := HV1.out.three
  have hlt := HV1.out.lt
  have HA : Hid (∀ c : Array Value, Below w1.heap.size w1 (w1.alloc (.cells c 31))) := hid (fun c => (Below.refl _ _).alloc (Nat.le_refl _) _)
  go_wp2_with fail
  refine (same_any false false _ _ _ _ N 1 N 1 _ (G1.out.below (HA.out _) (Nat.le_refl _)) (G2.out.below (HA.out _) (Nat.le_refl _)) (K1.out.below (HA.out _) (Nat.le_refl _)) (K2.out.below (HA.out _) (Nat.le_refl _))).mono ?_
  rintro e w2 ⟨ok, rfl, HOK, hb⟩
  have HB2 := hid (below_next HB1.out (below_over hb))
  have hok : ok = true := HOK.out.2 ⟨rfl, rfl, rfl⟩
  subst hok
  clear hb HOK
  go_wp2_with fail
  go_ret
  exact ⟨rfl, HB2.out⟩
end Go.Proofs.YtocahcammjoffaaGreatDoor
namespace Go.Proofs.YtocahcammjoffaaGreatDoor
open Go.RowKit Go.Dig
set_option maxRecDepth 100000
theorem of_len8 {ws : List Nat} (hd : ∀ d ∈ ws, d < 18446744073709551616) (hn : ws.length ≤ 40) : (dg 256 (val 18446744073709551616 ws)).length ≤ 1000 := by
  have h1 := val_lt (b := 18446744073709551616) (by omega) hd
  have h2 : (18446744073709551616 : Nat) ^ ws.length = 256 ^ (8 * ws.length) := by rw [Nat.pow_mul]
  rw [h2] at h1
  have := dg_length_le (b := 256) (by omega) h1
  omega
theorem of_len64 {ws : List Nat} (hd : ∀ d ∈ ws, d < 18446744073709551616) (hn : ws.length ≤ 40) : (dg 18446744073709551616 (val 18446744073709551616 ws)).length ≤ 1000 := by
  have h1 := val_lt (b := 18446744073709551616) (by omega) hd
  have := dg_length_le (b := 18446744073709551616) (by omega) h1
  omega
set_option maxHeartbeats 2000000 in
theorem bytesBack_3 (t n1 n2 : Bool) (s : ByteArray) (v1 : Value) (a2 a3 a4 : Option Addr) (L2 l3 l4 c2 c3 c4 : Nat) (ws : List Nat) (w : World) (h : Rd .u64 w v1 ws) (hw : ∀ x ∈ ws, x < 18446744073709551616) (hl : ws.length ≤ 40) :
    Calls Tryz.prog 8 #[.agg #[.int .i64 3, .bool t, .string s, .bool n1, v1, .slice a2 L2 c2, .bool n2, .slice a3 l3 c3, .slice a4 l4 c4]] w fun e w' => e = .returned (.bool true) ∧ Below w.heap.size w w' := by
  obtain ⟨a1, c1, rfl⟩ := h.shape
  have HP := hid (blk_new w #[.int .i64 3, .bool t, .string s, .bool n1, .slice a1 ws.length c1, .slice a2 L2 c2, .bool n2, .slice a3 l3 c3, .slice a4 l4 c4] 26)
  have HB : Hid (Below w.heap.size w (w.alloc (.cells #[.int .i64 3, .bool t, .string s, .bool n1, .slice a1 ws.length c1, .slice a2 L2 c2, .bool n2, .slice a3 l3 c3, .slice a4 l4 c4] 26))) := (Below.refl _ _).alloc (Nat.le_refl _) _
  have H := hid (h.below HB.out (Nat.le_refl _))
  have HW := hid hw
  clear h hw
  go_enter Tryz.func8, Tryz.ntmps8
  go_wp2_with fail
  generalize w.alloc (.cells #[.int .i64 3, .bool t, .string s, .bool n1, .slice a1 ws.length c1, .slice a2 L2 c2, .bool n2, .slice a3 l3 c3, .slice a4 l4 c4] 26) = w0 at *
  refine (zzFits1_any 3 t s n1 n2 a1 a2 a3 a4 ws.length L2 l3 l4 c1 c2 c3 c4 _).mono ?_
  rintro e w1 ⟨ok, rfl, hb⟩
  have HP1 := hid (HP.out.below hb HP.out.lt)
  have HB1 := hid (below_next HB.out hb)
  have H1 := hid (H.out.below hb (Nat.le_refl _))
  clear hb
  cases ok
  · go_wp2_with fail
    go_ret
    exact ⟨rfl, HB1.out⟩
  obtain ⟨q0, q1, q2, q3, q4, q5, q6, q7, q8, f0, f1, f2, f3, f4, f5, f6, f7, f8⟩ := HP1.out.nine
  go_wp2_with fail
  clear q0 q1 q2 q3 q4 q5 q6 q7 q8 f0 f1 f2 f3 f4 f5 f6 f7 f8
  refine (lawWhole_3 t s n1 n2 _ a2 a3 a4 L2 l3 l4 c2 c3 c4 ws _ H1.out HW.out hl).mono ?_
  rintro e w2 ⟨s0, u1, u2, ok, rfl, HS, HOK, HQ, hNt, hb⟩
  obtain ⟨p1, k1, rfl⟩ := hNt.1.shape
  obtain ⟨p2, k2, rfl⟩ := hNt.2.shape
  have HNT := hid hNt
  have HP2 := hid (HP1.out.below hb HP1.out.lt)
  have HB2 := hid (below_next HB1.out hb)
  have H2 := hid (H1.out.below hb (Nat.le_refl _))
  clear hNt hb
  obtain ⟨q0, q1, q2, q3, q4, q5, q6, q7, q8, f0, f1, f2, f3, f4, f5, f6, f7, f8⟩ := HP2.out.nine
  have hlt := HP2.out.lt
  cases ok
  · focus go_wp2_with fail
    refine wp_region_held_drew (S := fun _ => True) (by kernel_rfl) trivial (fun hHeld => ?_)
    refine wpAnyH_take (i := 0) (v := ?_) rfl (by kernel_rfl) (by kernel_rfl) (by kernel_rfl) (fun _ _ _ h => h) (Or.inl ⟨by rfl, ?_⟩) (by assumption) ?_
    rotate_left
    · intro w hSw
      try dsimp only at hSw
      go_simp
      try with_reducible rfl
    try simp only [Act.put, List.setIfInBounds_toArray]
    refine wpAnyH_take (i := 1) (v := ?_) rfl (by kernel_rfl) (by kernel_rfl) (by kernel_rfl) (fun _ _ _ h => h) (Or.inl ⟨by rfl, ?_⟩) (by assumption) ?_
    rotate_left
    · intro w hSw
      try dsimp only at hSw
      go_simp
      try with_reducible rfl
    try simp only [Act.put]
    refine wpAnyH_take (i := 2) (v := ?_) rfl (by kernel_rfl) (by kernel_rfl) (by kernel_rfl) (fun _ _ _ h => h) (Or.inl ⟨by rfl, ?_⟩) (by assumption) ?_
    rotate_left
    · intro w hSw
      try dsimp only at hSw
      go_simp
      try with_reducible rfl
    try simp only [Act.put]
    refine wpAnyH_take (i := 3) (v := undef) rfl (by kernel_rfl) (by kernel_rfl) (by kernel_rfl) (fun _ _ _ h => h) (Or.inr ⟨by kernel_rfl, rfl⟩) (by assumption) ?_
    try simp only [Act.put]
    refine wpAnyH_take (i := 4) (v := undef) rfl (by kernel_rfl) (by kernel_rfl) (by kernel_rfl) (fun _ _ _ h => h) (Or.inr ⟨by kernel_rfl, rfl⟩) (by assumption) ?_
    try simp only [Act.put]
    refine wpAnyH_take (i := 5) (v := undef) rfl (by kernel_rfl) (by kernel_rfl) (by kernel_rfl) (fun _ _ _ h => h) (Or.inr ⟨by kernel_rfl, rfl⟩) (by assumption) ?_
    try simp only [Act.put]
    refine wpAnyH_take (i := 6) (v := undef) rfl (by kernel_rfl) (by kernel_rfl) (by kernel_rfl) (fun _ _ _ h => h) (Or.inr ⟨by kernel_rfl, rfl⟩) (by assumption) ?_
    try simp only [Act.put]
    refine wpAnyH_take (i := 7) (v := undef) rfl (by kernel_rfl) (by kernel_rfl) (by kernel_rfl) (fun _ _ _ h => h) (Or.inr ⟨by kernel_rfl, rfl⟩) (by assumption) ?_
    try simp only [Act.put]
    refine wpAnyH_take (i := 8) (v := undef) rfl (by kernel_rfl) (by kernel_rfl) (by kernel_rfl) (fun _ _ _ h => h) (Or.inr ⟨by kernel_rfl, rfl⟩) (by assumption) ?_
    try simp only [Act.put]
    refine wpAnyH_take (i := 9) (v := undef) rfl (by kernel_rfl) (by kernel_rfl) (by kernel_rfl) (fun _ _ _ h => h) (Or.inr ⟨by kernel_rfl, rfl⟩) (by assumption) ?_
    try simp only [Act.put]
    refine wpAnyH_take (i := 10) (v := ?_) rfl (by kernel_rfl) (by kernel_rfl) (by kernel_rfl) (fun _ _ _ h => h) (Or.inl ⟨by rfl, ?_⟩) (by assumption) ?_
    rotate_left
    · intro w hSw
      try dsimp only at hSw
      go_simp
      try with_reducible rfl
    try simp only [Act.put]
    refine wpAnyH_take (i := 11) (v := ?_) rfl (by kernel_rfl) (by kernel_rfl) (by kernel_rfl) (fun _ _ _ h => h) (Or.inl ⟨by rfl, ?_⟩) (by assumption) ?_
    rotate_left
    · intro w hSw
      try dsimp only at hSw
      go_simp
      try with_reducible rfl
    simp only [Act.put, List.getElem_toArray, List.getElem_cons_succ, List.getElem_cons_zero, List.setIfInBounds_toArray, List.set_cons_succ, List.set_cons_zero]
    refine wpAnyH_done (by kernel_rfl) ?_ _
    go_wp2_with fail
    go_ret
    exact ⟨rfl, (HB2.out.alloc HB2.out.size _).drew⟩
  · focus go_wp2_with fail
    have HE : Hid (Below w2.heap.size w2 (w2.alloc (.cells #[.bool s0, .slice p1 (dg 65536 (val 18446744073709551616 ws)).length k1, .slice p2 (dg 65536 1).length k2] 31)).drew) := ((Below.refl _ _).alloc (Nat.le_refl _) _).drew
    have HV3 : Hid (Blk (w2.alloc (.cells #[.bool s0, .slice p1 (dg 65536 (val 18446744073709551616 ws)).length k1, .slice p2 (dg 65536 1).length k2] 31)).drew w2.heap.size #[.bool s0, .slice p1 (dg 65536 (val 18446744073709551616 ws)).length k1, .slice p2 (dg 65536 1).length k2] 31) := blk_new w2 _ 31
    have HP3 := hid (HP2.out.below HE.out HP2.out.lt)
    have HB3 := hid (below_next HB2.out HE.out)
    have H3 := hid (H2.out.below HE.out (Nat.le_refl _))
    have HN3 := hid (HNT.out.1.below HE.out (Nat.le_refl _))
    clear HE
    generalize (w2.alloc (.cells #[.bool s0, .slice p1 (dg 65536 (val 18446744073709551616 ws)).length k1, .slice p2 (dg 65536 1).length k2] 31)) = w3 at *
    have ka := cells12 HP3.out HV3.out
    refine wp_region_held_drew (S := fun w' => w'.cell? ⟨w.heap.size, 0, none⟩ = some (.int .i64 3) ∧ w'.cell? ⟨w.heap.size, 1, none⟩ = some (.bool t) ∧ w'.cell? ⟨w.heap.size, 2, none⟩ = some (.string s) ∧ w'.cell? ⟨w.heap.size, 3, none⟩ = some (.bool n1) ∧ w'.cell? ⟨w.heap.size, 4, none⟩ = some (.slice a1 ws.length c1) ∧ w'.cell? ⟨w.heap.size, 5, none⟩ = some (.slice a2 L2 c2) ∧ w'.cell? ⟨w.heap.size, 6, none⟩ = some (.bool n2) ∧ w'.cell? ⟨w.heap.size, 7, none⟩ = some (.slice a3 l3 c3) ∧ w'.cell? ⟨w.heap.size, 8, none⟩ = some (.slice a4 l4 c4) ∧ w'.cell? ⟨w2.heap.size, 0, none⟩ = some (.bool s0) ∧ w'.cell? ⟨w2.heap.size, 1, none⟩ = some (.slice p1 (dg 65536 (val 18446744073709551616 ws)).length k1) ∧ w'.cell? ⟨w2.heap.size, 2, none⟩ = some (.slice p2 (dg 65536 1).length k2)) (by kernel_rfl) ka (fun hHeld => ?_)
    refine wpAnyH_take (i := 0) (v := ?_) rfl (by kernel_rfl) (by kernel_rfl) (by kernel_rfl) (fun _ _ _ h => h) (Or.inl ⟨by rfl, ?_⟩) (by assumption) ?_
    rotate_left
    · intro w hSw
      try dsimp only at hSw
      go_simp
      try with_reducible rfl
    try simp only [Act.put, List.setIfInBounds_toArray]
    refine wpAnyH_take (i := 1) (v := ?_) rfl (by kernel_rfl) (by kernel_rfl) (by kernel_rfl) (fun _ _ _ h => h) (Or.inl ⟨by rfl, ?_⟩) (by assumption) ?_
    rotate_left
    · intro w hSw
      try dsimp only at hSw
      go_simp
      try with_reducible rfl
    try simp only [Act.put]
    refine wpAnyH_take (i := 2) (v := ?_) rfl (by kernel_rfl) (by kernel_rfl) (by kernel_rfl) (fun _ _ _ h => h) (Or.inl ⟨by rfl, ?_⟩) (by assumption) ?_
    rotate_left
    · intro w hSw
      try dsimp only at hSw
      go_simp
      try with_reducible rfl
    try simp only [Act.put]
    refine wpAnyH_take (i := 3) (v := ?_) rfl (by kernel_rfl) (by kernel_rfl) (by kernel_rfl) (fun _ _ _ h => h) (Or.inl ⟨by rfl, ?_⟩) (by assumption) ?_
    rotate_left
    · intro w hSw
      try dsimp only at hSw
      go_simp
      try with_reducible rfl
    try simp only [Act.put]
    refine wpAnyH_take (i := 6) (v := ?_) rfl (by kernel_rfl) (by kernel_rfl) (by kernel_rfl) (fun _ _ _ h => h) (Or.inl ⟨by rfl, ?_⟩) (by assumption) ?_
    rotate_left
    · intro w hSw
      try dsimp only at hSw
      go_simp
      try with_reducible rfl
    try simp only [Act.put]
    refine wpAnyH_take (i := 7) (v := ?_) rfl (by kernel_rfl) (by kernel_rfl) (by kernel_rfl) (fun _ _ _ h => h) (Or.inl ⟨by rfl, ?_⟩) (by assumption) ?_
    rotate_left
    · intro w hSw
      try dsimp only at hSw
      go_simp
      try with_reducible rfl
    try simp only [Act.put]
    refine wpAnyH_ready (rs := [4]) (by kernel_rfl) (by simp) ?_
    refine AllReadyH.cons rfl (fun K hK => ?_) AllReadyH.nil
    go_simp
    refine (iBytes_any t n1 n2 s _ _ _ _ ws _ H3.out HW.out (by omega)).mono ?_
    rintro e w4 ⟨vb, rfl, hb4, hform, hb⟩
    have HP4 := hid (HP3.out.below hb HP3.out.lt)
    have HV4 := hid (HV3.out.below hb HV3.out.lt)
    have HB4 := hid (below_next HB3.out hb)
    have HN4 := hid (HN3.out.below hb (Nat.le_refl _))
    have HBS := hid hb4
    have HFO := hid hform
    clear hb hb4 hform
    go_wp2_with fail
    refine hK.out _ _ (cells12 HP4.out HV4.out) (fun _ => ?_)
    clear hK K
    refine wpAnyH_ready (rs := [5]) (by kernel_rfl) (by simp) ?_
    refine AllReadyH.cons rfl (fun K hK => ?_) AllReadyH.nil
    go_simp
    refine (iFromBytes_any vb (dg 256 (val 18446744073709551616 ws)) w4 HBS.out.rd (dg_lt (by omega) _) (of_len8 HW.out hl) HFO.out).mono ?_
    rintro e w5 ⟨t5, v5, rfl, ht5, h5, hb⟩
    rw [val_dg (by omega)] at h5
    obtain ⟨a5, c5, rfl⟩ := h5.shape
    have HP5 := hid (HP4.out.below hb HP4.out.lt)
    have HV5 := hid (HV4.out.below hb HV4.out.lt)
    have HB5 := hid (below_next HB4.out hb)
    have HN5 := hid (HN4.out.below hb (Nat.le_refl _))
    have HT5 := hid h5
    clear hb h5
    go_wp2_with fail
    refine hK.out _ _ (cells12 HP5.out HV5.out) (fun _ => ?_)
    clear hK K
    refine wpAnyH_ready (rs := [8]) (by kernel_rfl) (by simp) ?_
    refine AllReadyH.cons rfl (fun K hK => ?_) AllReadyH.nil
    go_simp
    refine (whole_h false _ _ w5 HN5.out).mono ?_
    rintro e w6 ⟨s6, u61, u62, rfl, HS6, h61, h62, hb⟩
    have hs6 : s6 = false := HS6.out
    obtain ⟨a61, c61, rfl⟩ := h61.shape
    obtain ⟨a62, c62, rfl⟩ := h62.shape
    have HP6 := hid (HP5.out.below hb HP5.out.lt)
    have HV6 := hid (HV5.out.below hb HV5.out.lt)
    have HB6 := hid (below_next HB5.out hb)
    have HT6 := hid (HT5.out.below hb (Nat.le_refl _))
    have H61 := hid h61
    have H62 := hid h62
    clear hb h61 h62
    go_wp2_with fail
    refine hK.out _ _ (cells12 HP6.out HV6.out) (fun _ => ?_)
    clear hK K
    refine wpAnyH_ready (rs := [9]) (by kernel_rfl) (by simp) ?_
    refine AllReadyH.cons rfl (fun K hK => ?_) AllReadyH.nil
    go_simp
    refine (isInt_told t5 ht5.out _ _ _ _ w6 HT6.out (of_len64 HW.out hl) H61.out H62.out).mono ?_
    rintro e w7 ⟨rfl, hb⟩
    have HP7 := hid (HP6.out.below hb HP6.out.lt)
    have HV7 := hid (HV6.out.below hb HV6.out.lt)
    have HB7 := hid (below_next HB6.out hb)
    clear hb
    go_wp2_with fail
    refine hK.out _ _ (cells12 HP7.out HV7.out) (fun _ => ?_)
    clear hK K
    refine wpAnyH_take (i := 10) (v := ?_) rfl (by kernel_rfl) (by kernel_rfl) (by kernel_rfl) (fun _ _ _ h => h) (Or.inl ⟨by rfl, ?_⟩) (by assumption) ?_
    rotate_left
    · intro w hSw
      try dsimp only at hSw
      go_simp
      try with_reducible rfl
    try simp only [Act.put]
    refine wpAnyH_take (i := 11) (v := ?_) rfl (by kernel_rfl) (by kernel_rfl) (by kernel_rfl) (fun _ _ _ h => h) (Or.inl ⟨by rfl, ?_⟩) (by assumption) ?_
    rotate_left
    · intro w hSw
      try dsimp only at hSw
      go_simp
      try with_reducible rfl
    simp only [Act.put, List.getElem_toArray, List.getElem_cons_succ, List.getElem_cons_zero, List.setIfInBounds_toArray, List.set_cons_succ, List.set_cons_zero]
    refine wpAnyH_done (by kernel_rfl) ?_ _
    go_wp2_with fail
    go_ret
    exact ⟨rfl, HB7.out⟩
end Go.Proofs.YtocahcammjoffaaGreatDoor
namespace Go.Proofs.YtocahcammjoffaaGreatDoor
open Go.RowKit Go.Dig
set_option maxRecDepth 100000
set_option maxHeartbeats 2000000 in
theorem bytesBack_no (k : Int) (t n1 n2 : Bool) (s : ByteArray) (a1 a2 a3 a4 : Option Addr) (L1 L2 l3 l4 c1 c2 c3 c4 : Nat) (w : World)
    (hL : ∀ w, Calls Tryz.prog 20 #[.agg #[.int .i64 k, .bool t, .string s, .bool n1, .slice a1 L1 c1, .slice a2 L2 c2, .bool n2, .slice a3 l3 c3, .slice a4 l4 c4], .int .i64 40] w fun e w' => e = .returned (.tuple #[.agg #[.bool false, .slice none 0 0, .slice none 0 0], .bool false]) ∧ Below w.heap.size w w') :
    Calls Tryz.prog 8 #[.agg #[.int .i64 k, .bool t, .string s, .bool n1, .slice a1 L1 c1, .slice a2 L2 c2, .bool n2, .slice a3 l3 c3, .slice a4 l4 c4]] w fun e w' => e = .returned (.bool true) ∧ Below w.heap.size w w' := by
  have HP := hid (blk_new w #[.int .i64 k, .bool t, .string s, .bool n1, .slice a1 L1 c1, .slice a2 L2 c2, .bool n2, .slice a3 l3 c3, .slice a4 l4 c4] 26)
  have HB : Hid (Below w.heap.size w (w.alloc (.cells #[.int .i64 k, .bool t, .string s, .bool n1, .slice a1 L1 c1, .slice a2 L2 c2, .bool n2, .slice a3 l3 c3, .slice a4 l4 c4] 26))) := (Below.refl _ _).alloc (Nat.le_refl _) _
  have HL := hid hL
  clear hL
  go_enter Tryz.func8, Tryz.ntmps8
  go_wp2_with fail
  generalize w.alloc (.cells #[.int .i64 k, .bool t, .string s, .bool n1, .slice a1 L1 c1, .slice a2 L2 c2, .bool n2, .slice a3 l3 c3, .slice a4 l4 c4] 26) = w0 at *
  refine (zzFits1_any k t s n1 n2 a1 a2 a3 a4 L1 L2 l3 l4 c1 c2 c3 c4 _).mono ?_
  rintro e w1 ⟨ok, rfl, hb⟩
  have HP1 := hid (HP.out.below hb HP.out.lt)
  have HB1 := hid (below_next HB.out hb)
  clear hb
  cases ok
  · go_wp2_with fail
    go_ret
    exact ⟨rfl, HB1.out⟩
  obtain ⟨q0, q1, q2, q3, q4, q5, q6, q7, q8, f0, f1, f2, f3, f4, f5, f6, f7, f8⟩ := HP1.out.nine
  go_wp2_with fail
  clear q0 q1 q2 q3 q4 q5 q6 q7 q8 f0 f1 f2 f3 f4 f5 f6 f7 f8
  refine (HL.out _).mono ?_
  rintro e w2 ⟨rfl, hb⟩
  have HB2 := hid (below_next HB1.out hb)
  clear hb
  focus go_wp2_with fail
  refine wp_region_held_drew (S := fun _ => True) (by kernel_rfl) trivial (fun hHeld => ?_)
  refine wpAnyH_take (i := 0) (v := ?_) rfl (by kernel_rfl) (by kernel_rfl) (by kernel_rfl) (fun _ _ _ h => h) (Or.inl ⟨by rfl, ?_⟩) (by assumption) ?_
  rotate_left
  · intro w hSw
    try dsimp only at hSw
    go_simp
    try with_reducible rfl
  try simp only [Act.put, List.setIfInBounds_toArray]
  refine wpAnyH_take (i := 1) (v := ?_) rfl (by kernel_rfl) (by kernel_rfl) (by kernel_rfl) (fun _ _ _ h => h) (Or.inl ⟨by rfl, ?_⟩) (by assumption) ?_
  rotate_left
  · intro w hSw
    try dsimp only at hSw
    go_simp
    try with_reducible rfl
  try simp only [Act.put]
  refine wpAnyH_take (i := 2) (v := ?_) rfl (by kernel_rfl) (by kernel_rfl) (by kernel_rfl) (fun _ _ _ h => h) (Or.inl ⟨by rfl, ?_⟩) (by assumption) ?_
  rotate_left
  · intro w hSw
    try dsimp only at hSw
    go_simp
    try with_reducible rfl
  try simp only [Act.put]
  refine wpAnyH_take (i := 3) (v := undef) rfl (by kernel_rfl) (by kernel_rfl) (by kernel_rfl) (fun _ _ _ h => h) (Or.inr ⟨by kernel_rfl, rfl⟩) (by assumption) ?_
  try simp only [Act.put]
  refine wpAnyH_take (i := 4) (v := undef) rfl (by kernel_rfl) (by kernel_rfl) (by kernel_rfl) (fun _ _ _ h => h) (Or.inr ⟨by kernel_rfl, rfl⟩) (by assumption) ?_
  try simp only [Act.put]
  refine wpAnyH_take (i := 5) (v := undef) rfl (by kernel_rfl) (by kernel_rfl) (by kernel_rfl) (fun _ _ _ h => h) (Or.inr ⟨by kernel_rfl, rfl⟩) (by assumption) ?_
  try simp only [Act.put]
  refine wpAnyH_take (i := 6) (v := undef) rfl (by kernel_rfl) (by kernel_rfl) (by kernel_rfl) (fun _ _ _ h => h) (Or.inr ⟨by kernel_rfl, rfl⟩) (by assumption) ?_
  try simp only [Act.put]
  refine wpAnyH_take (i := 7) (v := undef) rfl (by kernel_rfl) (by kernel_rfl) (by kernel_rfl) (fun _ _ _ h => h) (Or.inr ⟨by kernel_rfl, rfl⟩) (by assumption) ?_
  try simp only [Act.put]
  refine wpAnyH_take (i := 8) (v := undef) rfl (by kernel_rfl) (by kernel_rfl) (by kernel_rfl) (fun _ _ _ h => h) (Or.inr ⟨by kernel_rfl, rfl⟩) (by assumption) ?_
  try simp only [Act.put]
  refine wpAnyH_take (i := 9) (v := undef) rfl (by kernel_rfl) (by kernel_rfl) (by kernel_rfl) (fun _ _ _ h => h) (Or.inr ⟨by kernel_rfl, rfl⟩) (by assumption) ?_
  try simp only [Act.put]
  refine wpAnyH_take (i := 10) (v := ?_) rfl (by kernel_rfl) (by kernel_rfl) (by kernel_rfl) (fun _ _ _ h => h) (Or.inl ⟨by rfl, ?_⟩) (by assumption) ?_
  rotate_left
  · intro w hSw
    try dsimp only at hSw
    go_simp
    try with_reducible rfl
  try simp only [Act.put]
  refine wpAnyH_take (i := 11) (v := ?_) rfl (by kernel_rfl) (by kernel_rfl) (by kernel_rfl) (fun _ _ _ h => h) (Or.inl ⟨by rfl, ?_⟩) (by assumption) ?_
  rotate_left
  · intro w hSw
    try dsimp only at hSw
    go_simp
    try with_reducible rfl
  simp only [Act.put, List.getElem_toArray, List.getElem_cons_succ, List.getElem_cons_zero, List.setIfInBounds_toArray, List.set_cons_succ, List.set_cons_zero]
  refine wpAnyH_done (by kernel_rfl) ?_ _
  go_wp2_with fail
  go_ret
  exact ⟨rfl, (HB2.out.alloc HB2.out.size _).drew⟩
theorem bytesBack_any (k : Int) (t n1 n2 : Bool) (s : ByteArray) (v1 : Value) (a2 a3 a4 : Option Addr) (L2 l3 l4 c2 c3 c4 : Nat) (ws : List Nat) (w : World) (h : Rd .u64 w v1 ws) (hw : ∀ x ∈ ws, x < 18446744073709551616) :
    Calls Tryz.prog 8 #[.agg #[.int .i64 k, .bool t, .string s, .bool n1, v1, .slice a2 L2 c2, .bool n2, .slice a3 l3 c3, .slice a4 l4 c4]] w fun e w' => e = .returned (.bool true) ∧ Below w.heap.size w w' := by
  obtain ⟨a1, c1, rfl⟩ := h.shape
  by_cases hl : ws.length ≤ 40
  · by_cases hk : k = 3
    · subst hk
      exact bytesBack_3 t n1 n2 s _ a2 a3 a4 L2 l3 l4 c2 c3 c4 ws w h hw hl
    · exact bytesBack_no k t n1 n2 s a1 a2 a3 a4 _ L2 l3 l4 c1 c2 c3 c4 w (fun w => lawWhole_not k hk t s n1 n2 _ _ _ a1 _ c1 w hl)
  · exact bytesBack_no k t n1 n2 s a1 a2 a3 a4 _ L2 l3 l4 c1 c2 c3 c4 w (fun w => lawWhole_long k t s n1 n2 _ _ _ a1 _ c1 w (by omega))
end Go.Proofs.YtocahcammjoffaaGreatDoor
