/- Int.Cmp, Rat.norm. -/
import Derived.Test.YtdhgdachchhflaaGreatDoorQI
import Derived.Test.YtdhgdachchhflaaGreatDoorQB
import Derived.Test.YtdhgdachchhflaaGreatDoorQJ
import Derived.Defers
namespace Go.Proofs.YtdhgdachchhflaaGreatDoor
open Go.RowKit Go.Dig
set_option maxRecDepth 100000
theorem eql_ptr_other {P : Program} (w : World) {tp te : TypeId} {j : TypeInfo} {a b : Addr} {ca cb : Array Value} {ta tb : TypeId} (hp : P.underlying tp = some (.pointer te)) (hte : P.info? te = some j) (hsz : j.size ≠ 0)
    (hne : a ≠ b) (ha : w.heap[a.block]? = some (.cells ca ta (0, 0))) (hb : w.heap[b.block]? = some (.cells cb tb (0, 0))) :
    (binOp .eql tp (.pointer (some a)) (.pointer (some b))).run P w = .ok (.bool false) w := by
  have h : ∀ d : Nat, (Op.equalIn (d + 1) tp (.pointer (some a)) (.pointer (some b))).run P w = .ok false w := fun d => by
    simp [Op.equalIn, run_underlying hp, sizeOf, typeInfo, hte, hsz, run_sameAddr_other w hne ha hb]
  simp only [binOp]
  simp [Op.equal, Op.maxDepth, h 9999]
set_option maxHeartbeats 400000 in
/-- Int.Cmp of two words that are not negative. -/
theorem intCmp_word (b1 b2 m n : Nat) (v1 v2 : Value) (w : World) (h1 : Blk w b1 #[.bool false, v1] 86) (h2 : Blk w b2 #[.bool false, v2] 86) (n1 : Nw w v1 m) (n2 : Nw w v2 n) (hm : m < 18446744073709551616) (hn : n < 18446744073709551616) (hne : b1 ≠ b2) :
    Calls Tryz.prog 80 #[.pointer (some ⟨b1, 0, none⟩), .pointer (some ⟨b2, 0, none⟩)] w fun e w' => e = .returned (.int .i64 (cmpI m n)) ∧ ∃ k, w' = w.drewN k := by
  obtain ⟨j, hj, hjs⟩ : ∃ j, Tryz.prog.info? 86 = some j ∧ j.size ≠ 0 := by
    have h : (Tryz.prog.info? 86).map (·.size) = some 2 := by kernel_rfl
    obtain ⟨j, hj, e⟩ := Option.map_eq_some_iff.1 h
    exact ⟨j, hj, by rw [e]; omega⟩
  have heq := eql_ptr_other (P := Tryz.prog) w (tp := 82) (te := 86) (a := ⟨b1, 0, none⟩) (b := ⟨b2, 0, none⟩) Tryz.underlying82 hj hjs (fun h => hne (congrArg Addr.block h)) h1 h2
  obtain ⟨a1, l1, c1, rfl, _⟩ := nw_shape n1
  obtain ⟨a2, l2, c2, rfl, _⟩ := nw_shape n2
  have HC := hid (fun k => ncmp_small (.slice a1 l1 c1) (.slice a2 l2 c2) m n (w.drewN k) (n1.below (below_drewN' k) (Nat.le_refl _)) (n2.below (below_drewN' k) (Nat.le_refl _)) hm hn)
  obtain ⟨x0, x1, _, _⟩ := two_cells h1
  obtain ⟨y0, y1, _, _⟩ := two_cells h2
  clear h1 h2 n1 n2 hj hjs
  generalize cmpI m n = r at *
  go_enter Tryz.func80, Tryz.ntmps80
  go_wp2_with fail
  go_quiet (fail)
  have z0 : (w.drewN nq).cell? ⟨b1, 0, none⟩ = some (.bool false) := x0
  have z1 : (w.drewN nq).cell? ⟨b1, 1, none⟩ = some (.slice a1 l1 c1) := x1
  have z2 : (w.drewN nq).cell? ⟨b2, 1, none⟩ = some (.slice a2 l2 c2) := y1
  have HC2 : Hid (∀ k, Calls Tryz.prog 100 #[.slice a1 l1 c1, .slice a2 l2 c2] ((w.drewN nq).drewN k) fun e w' => e = .returned (.int .i64 r) ∧ ∃ m, w' = ((w.drewN nq).drewN k).drewN m) := hid (fun k => by have := HC.out (nq + k); rw [← World.drewN_drewN] at this; exact this)
  have HK : Hid (∀ k, ∃ m, (w.drewN nq).drewN k = w.drewN m) := hid (fun k => ⟨nq + k, World.drewN_drewN _ _ _⟩)
  clear x0 x1 y0 y1 heq HC
  generalize w.drewN nq = W at *
  go_wp2_with fail
  go_quiet ((go_at_call 100; exact Calls.quiet_of (HC2.out _)))
  go_wp2_with fail
  go_ret
  obtain ⟨k, hk⟩ := HK.out nq
  exact ⟨rfl, k, hk⟩
end Go.Proofs.YtdhgdachchhflaaGreatDoor
namespace Go.Proofs.YtdhgdachchhflaaGreatDoor
open Go.RowKit Go.Dig
set_option maxRecDepth 100000
theorem getStack_any (w : World) : Calls Tryz.prog 76 #[] w fun e w' => e = .returned (.pointer (some ⟨w.heap.size, 0, none⟩)) ∧ w' = w.alloc (.cells #[.pointer none] 167) := by
  go_enter Tryz.func76, Tryz.ntmps76
  go_wp2_with fail
  go_ret
  exact ⟨rfl, rfl⟩
theorem free_any (b : Nat) (u : FrameMode) (w : World) (h : w.cell? ⟨b, 0, none⟩ = some (.pointer none)) : CallsD Tryz.prog 77 #[.pointer (some ⟨b, 0, none⟩)] u w fun e u' w' => u' = u ∧ e = .returned (.tuple #[]) ∧ w' = w := by
  go_enter_d Tryz.func77, Tryz.ntmps77
  go_wp2_with fail
  exact bodyPost_end (v := .tuple #[]) (by simp [results, Tryz.results77, go_sem]) rfl ⟨rfl, rfl⟩
theorem leaves_tmps {P : Program} {fn : Func} {R : Ending → World → Prop} {t t' : Array Value} (h : ∀ w, (results fn t).run P w = (results fn t').run P w) : ∀ (ds : List Deferred) (u : FrameMode) (w : World), Leaves P fn t R ds u w → Leaves P fn t' R ds u w
  | [], .returning, w, ⟨v, h1, h2⟩ => ⟨v, (h w).symm.trans h1, h2⟩
  | [], .panicking _, _, hl => hl
  | [], .run, _, hl => hl
  | _ :: ds, _, _, ⟨h0, fv, cap, f, args, h1, h2, h3⟩ => ⟨h0, fv, cap, f, args, h1, h2, h3.mono fun e u' w' hr => by
      cases e
      · exact leaves_tmps h ds _ _ hr
      · exact leaves_tmps h ds _ _ hr
      · exact hr⟩
theorem norm_put (a : Act) (dst : Option Nat) (d : Nat) (v : Value) (hd : dst = some d) (hne : d ≠ 2) : ∀ w, (results Tryz.f49 (a.put dst v).tmps).run Tryz.prog w = (results Tryz.f49 a.tmps).run Tryz.prog w := by
  intro w
  subst hd
  rw [results_tmp (t := 2) Tryz.results49, results_tmp (t := 2) Tryz.results49]
  simp only [Act.put, Array.getD_eq_getD_getElem?]
  rw [Array.getElem?_setIfInBounds_ne hne]
theorem four_cells {w : World} {b : Nat} {x0 x1 x2 x3 : Value} {e : TypeId} (h : Blk w b #[x0, x1, x2, x3] e) : (w.cell? ⟨b, 0, none⟩ = some x0 ∧ w.cell? ⟨b, 1, none⟩ = some x1 ∧ w.cell? ⟨b, 2, none⟩ = some x2 ∧ w.cell? ⟨b, 3, none⟩ = some x3) ∧ w.frozen? ⟨b, 0, none⟩ = false ∧ w.frozen? ⟨b, 1, none⟩ = false ∧ w.frozen? ⟨b, 2, none⟩ = false ∧ w.frozen? ⟨b, 3, none⟩ = false := ⟨⟨h.cell 0, h.cell 1, h.cell 2, h.cell 3⟩, h.frozen 0, h.frozen 1, h.frozen 2, h.frozen 3⟩
set_option maxHeartbeats 1000000 in
/-- Rat.norm of a fraction in lowest terms: nothing is turned. -/
theorem norm_frac (bx P D : Nat) (s : Bool) (vP vD : Value) (w : World) (hx : Blk w bx #[.bool s, vP, .bool false, vD] 103) (hP : Nw w vP P) (hD : Nw w vD D) (hlP : (dg 18446744073709551616 P).length ≤ 900) (hlD : (dg 18446744073709551616 D).length ≤ 900) (hP0 : 0 < P) (hD0 : 0 < D) (hw : P < 18446744073709551616 ∨ D < 18446744073709551616) (hg : Nat.gcd P D = 1) :
    Calls Tryz.prog 49 #[.pointer (some ⟨bx, 0, none⟩)] w fun e w' => e = .returned (.pointer (some ⟨bx, 0, none⟩)) ∧ Blk w' bx #[.bool s, vP, .bool false, vD] 103 ∧ Nw w' vP P ∧ Nw w' vD D ∧ Below bx w w' := by
  obtain ⟨aP, lP, cP, rfl, hlp⟩ := nw_shape hP
  obtain ⟨aD, lD, cD, rfl, hld⟩ := nw_shape hD
  have hp : 0 < lP := by rw [hlp.out]; exact len_pos (by omega)
  have hd : 0 < lD := by rw [hld.out]; exact len_pos (by omega)
  have e1 : ((lP : Int) == 0) = false := by simp; omega
  have e2 : ((lD : Int) == 0) = false := by simp; omega
  have HL := hid (And.intro hlP (And.intro hlD (And.intro hP0 (And.intro hD0 (And.intro hw hg)))))
  have HX := hid hx
  have HP := hid hP
  have HD := hid hD
  obtain ⟨⟨x0, x1, x2, x3⟩, _⟩ := four_cells hx
  clear hlP hlD hP0 hD0 hw hg hx hP hD
  go_enter_defers Tryz.func49, Tryz.ntmps49
  go_wp2_with fail
  refine (getStack_any _).mono ?_
  rintro e w1 ⟨rfl, hw1⟩
  have HS := hid (show Blk w1 w.heap.size #[.pointer none] 167 by rw [hw1]; exact blk_new w _ 167)
  have HE : Hid (Below w.heap.size w w1) := hid (by rw [hw1]; exact (Below.refl _ _).alloc (Nat.le_refl _) _)
  have HX1 := hid (HX.out.below HE.out HX.out.lt)
  have HP1 := hid (HP.out.below HE.out (Nat.le_refl _))
  have HD1 := hid (HD.out.below HE.out (Nat.le_refl _))
  have HBS : Hid (bx < w.heap.size) := hid HX.out.lt
  generalize hbs : w.heap.size = bs at *
  have HE1 : Hid (Below bx w w1) := hid (HE.out.mono (Nat.le_of_lt HBS.out))
  clear hw1 x0 x1 x2 x3 HX HP HD HE
  obtain ⟨⟨x0, x1, x2, x3⟩, f0, _, f2, _⟩ := four_cells HX1.out
  go_wp2_with fail
  have HX2 : Hid (Blk ((w1.setCell ⟨bx, 0, none⟩ (.bool false)).setCell ⟨bx, 2, none⟩ (.bool false)) bx #[.bool false, .slice aP lP cP, .bool false, .slice aD lD cD] 103) := by
    have := (HX1.out.set 0 (.bool false)).set 2 (.bool false)
    refine hid ?_
    simpa using this
  have HP2 := hid ((HP1.out.set (p := ⟨bx, 0, none⟩) (.bool false) HX1.out.shape (by decide)).set (p := ⟨bx, 2, none⟩) (.bool false) (by rw [shape_setCell]; exact HX1.out.shape) (by decide))
  have HD2 := hid ((HD1.out.set (p := ⟨bx, 0, none⟩) (.bool false) HX1.out.shape (by decide)).set (p := ⟨bx, 2, none⟩) (.bool false) (by rw [shape_setCell]; exact HX1.out.shape) (by decide))
  have HS2 := hid ((HS.out.far1 (i := 0) (show bs ≠ bx by have := HBS.out; omega) (.bool false)).far1 (i := 2) (show bs ≠ bx by have := HBS.out; omega) (.bool false))
  have HE2 : Hid (Below bx w ((w1.setCell ⟨bx, 0, none⟩ (.bool false)).setCell ⟨bx, 2, none⟩ (.bool false))) := hid (Below.setCell (p := ⟨bx, 2, none⟩) (Below.setCell (p := ⟨bx, 0, none⟩) HE1.out (Nat.le_refl _) _) (Nat.le_refl _) _)
  clear x0 x1 x2 x3 f0 f2 HX1 HP1 HD1 HS HE1
  generalize (w1.setCell ⟨bx, 0, none⟩ (.bool false)).setCell ⟨bx, 2, none⟩ (.bool false) = W at *
  refine wp_region_held_drew (S := fun _ => True) (by kernel_rfl) trivial (fun hHeld => ?_)
  refine wpAnyH_take (i := 1) (v := ?_) rfl (by kernel_rfl) (by kernel_rfl) (by kernel_rfl) (fun _ _ _ h => leaves_tmps (norm_put _ _ _ _ rfl (by decide)) _ _ _ h) (Or.inl ⟨by rfl, ?_⟩) (by assumption) ?_
  rotate_left
  · intro w hSw
    try dsimp only at hSw
    go_simp
    try with_reducible rfl
  try simp only [Act.put, List.setIfInBounds_toArray]
  refine wpAnyH_take (i := 2) (v := ?_) rfl (by kernel_rfl) (by kernel_rfl) (by kernel_rfl) (fun _ _ _ h => leaves_tmps (norm_put _ _ _ _ rfl (by decide)) _ _ _ h) (Or.inl ⟨by rfl, ?_⟩) (by assumption) ?_
  rotate_left
  · intro w hSw
    try dsimp only at hSw
    go_simp
    try with_reducible rfl
  try simp only [Act.put]
  refine wpAnyH_take (i := 3) (v := ?_) rfl (by kernel_rfl) (by kernel_rfl) (by kernel_rfl) (fun _ _ _ h => leaves_tmps (norm_put _ _ _ _ rfl (by decide)) _ _ _ h) (Or.inl ⟨by rfl, ?_⟩) (by assumption) ?_
  rotate_left
  · intro w hSw
    try dsimp only at hSw
    go_simp
    try with_reducible rfl
  try simp only [Act.put]
  refine wpAnyH_take (i := 4) (v := ?_) rfl (by kernel_rfl) (by kernel_rfl) (by kernel_rfl) (fun _ _ _ h => leaves_tmps (norm_put _ _ _ _ rfl (by decide)) _ _ _ h) (Or.inl ⟨by rfl, ?_⟩) (by assumption) ?_
  rotate_left
  · intro w hSw
    try dsimp only at hSw
    go_simp
    try with_reducible rfl
  try simp only [Act.put]
  refine wpAnyH_take (i := 5) (v := ?_) rfl (by kernel_rfl) (by kernel_rfl) (by kernel_rfl) (fun _ _ _ h => leaves_tmps (norm_put _ _ _ _ rfl (by decide)) _ _ _ h) (Or.inl ⟨by rfl, ?_⟩) (by assumption) ?_
  rotate_left
  · intro w hSw
    try dsimp only at hSw
    go_simp
    try with_reducible rfl
  try simp only [Act.put]
  refine wpAnyH_take (i := 6) (v := ?_) rfl (by kernel_rfl) (by kernel_rfl) (by kernel_rfl) (fun _ _ _ h => leaves_tmps (norm_put _ _ _ _ rfl (by decide)) _ _ _ h) (Or.inl ⟨by rfl, ?_⟩) (by assumption) ?_
  rotate_left
  · intro w hSw
    try dsimp only at hSw
    go_simp
    try with_reducible rfl
  try simp only [Act.put]
  refine wpAnyH_ready (rs := [0]) (by kernel_rfl) (by simp) ?_
  refine AllReadyH.cons rfl (fun K hK => ?_) AllReadyH.nil
  go_simp
  refine (newInt0 _).mono ?_
  rintro e w3 ⟨rfl, hw3⟩
  have HE3 : Hid (Below W.heap.size W w3) := hid (by rw [hw3]; exact ((Below.refl _ _).drew).alloc (Nat.le_refl _) _)
  have HZ3 : Hid (Blk w3 W.heap.size #[.bool false, .slice none 0 0] 86) := hid (by rw [hw3]; exact blk_new W.drew _ 86)
  have HX3 := hid (HX2.out.below HE3.out HX2.out.lt)
  have HP3 := hid (HP2.out.below HE3.out (Nat.le_refl _))
  have HD3 := hid (HD2.out.below HE3.out (Nat.le_refl _))
  have HS3 := hid (HS2.out.below HE3.out HS2.out.lt)
  have HE4 := hid (HE2.out.trans (HE3.out.mono (Nat.le_of_lt HX2.out.lt)))
  have HBX : Hid (bx < W.heap.size ∧ bs < W.heap.size) := hid ⟨HX2.out.lt, HS2.out.lt⟩
  clear hw3 HX2 HS2 HE2
  have hwz : W.drew.heap.size = W.heap.size := rfl
  generalize hbz : W.heap.size = bz at *
  try rw [hwz]
  go_wp2_with fail
  refine hK.out _ _ trivial (fun _ => ?_)
  clear hK K
  refine wpAnyH_ready (rs := [7]) (by kernel_rfl) (by simp) ?_
  refine AllReadyH.cons rfl (fun K hK => ?_) AllReadyH.nil
  go_simp
  refine (lehmer_word bz bx P D _ _ _ 103 w3 HZ3.out HX3.out rfl rfl rfl rfl HP3.out HD3.out HL.out.1 HL.out.2.1 HL.out.2.2.1 HL.out.2.2.2.1 HL.out.2.2.2.2.1 (by have := HBX.out; omega)).mono ?_
  rintro e w4 ⟨rfl, hI, hb⟩
  have HI := hid hI
  have HB4 := hid hb
  clear hI hb
  go_wp2_with fail
  refine hK.out _ _ trivial (fun _ => ?_)
  clear hK K
  refine wpAnyH_take (i := 8) (v := ?_) rfl (by kernel_rfl) (by kernel_rfl) (by kernel_rfl) (fun _ _ _ h => leaves_tmps (norm_put _ _ _ _ rfl (by decide)) _ _ _ h) (Or.inl ⟨by rfl, ?_⟩) (by assumption) ?_
  rotate_left
  · intro w hSw
    try dsimp only at hSw
    go_simp
    try with_reducible rfl
  simp only [Act.put, List.getElem_toArray, List.getElem_cons_succ, List.getElem_cons_zero, List.setIfInBounds_toArray, List.set_cons_succ, List.set_cons_zero]
  refine wpAnyH_done (by kernel_rfl) ?_ _
  have HX4 := hid (HX3.out.below HB4.out HBX.out.1)
  have HS4 := hid (HS3.out.below HB4.out HBX.out.2)
  have HP4 := hid (HP2.out.below (HE3.out.trans HB4.out) (Nat.le_of_eq hbz))
  have HD4 := hid (HD2.out.below (HE3.out.trans HB4.out) (Nat.le_of_eq hbz))
  have HE5 := hid (HE4.out.trans (HB4.out.mono (Nat.le_of_lt HBX.out.1)))
  clear HX3 HS3 HP3 HD3 HE4 HZ3 HB4 HP2 HD2 HE3
  go_wp2_with fail
  refine (intOne_any _).mono ?_
  rintro e w5 ⟨b1, rfl, hb1, ⟨v1, h1, hn1⟩, hb⟩
  have H1 := hid h1
  have HN1 := hid hn1
  have HI5 := hid (HI.out.below hb)
  have HX5 := hid (HX4.out.below hb HX4.out.lt)
  have HS5 := hid (HS4.out.below hb HS4.out.lt)
  have HP5 := hid (HP4.out.below hb (Nat.le_refl _))
  have HD5 := hid (HD4.out.below hb (Nat.le_refl _))
  have HE6 := hid (HE5.out.trans (hb.mono (Nat.le_of_lt HX4.out.lt)))
  have HNE : Hid (bz ≠ b1) := hid (by obtain ⟨_, h, _⟩ := HI.out; have := h.lt; have := hb1.out; omega)
  clear h1 hn1 hb hb1 HI HX4 HS4 HP4 HD4 HE5
  obtain ⟨vI, hI1, hI2⟩ := HI5.out
  rw [HL.out.2.2.2.2.2] at hI2
  have HI1 := hid hI1
  have HI2 := hid hI2
  clear hI1 hI2 HI5
  go_wp2_with fail
  refine (intCmp_word bz b1 1 1 vI v1 w5 HI1.out H1.out HI2.out HN1.out (by omega) (by omega) HNE.out).mono ?_
  rintro e w6 ⟨rfl, k, hk⟩
  have HE7 : Hid (Below w5.heap.size w5 w6) := hid (by rw [hk]; exact below_drewN' k)
  have HX6 := hid (HX5.out.below HE7.out HX5.out.lt)
  have HS6 := hid (HS5.out.below HE7.out HS5.out.lt)
  have HP6 := hid (HP5.out.below HE7.out (Nat.le_refl _))
  have HD6 := hid (HD5.out.below HE7.out (Nat.le_refl _))
  have HE8 := hid (HE6.out.trans (HE7.out.mono (Nat.le_of_lt HX5.out.lt)))
  have hc : cmpI 1 1 = 0 := rfl
  rw [hc]
  clear hk hc HX5 HS5 HP5 HD5 HE6 HE7 HI1 HI2 H1 HN1
  obtain ⟨⟨x0, x1, x2, x3⟩, f0, _, _, _⟩ := four_cells HX6.out
  go_wp2_with fail
  have HX7 : Blk (w6.setCell ⟨bx, 0, none⟩ (.bool s)) bx #[.bool s, .slice aP lP cP, .bool false, .slice aD lD cD] 103 := by
    have := HX6.out.set 0 (.bool s)
    simpa using this
  have HS7 := HS6.out.far1 (i := 0) (show bs ≠ bx by have := HBS.out; omega) (.bool s)
  refine leaves_cons (f := 77) (args := #[.pointer (some ⟨bs, 0, none⟩)]) (by simp) (by simp [go_sem]) ?_
  refine (free_any bs .returning _ (HS7.cell 0)).mono ?_
  rintro e u' w'' ⟨rfl, rfl, rfl⟩
  exact ⟨_, results_tmp rfl _ _ _, rfl, HX7, HP6.out.set (p := ⟨bx, 0, none⟩) _ HX6.out.shape (by decide), HD6.out.set (p := ⟨bx, 0, none⟩) _ HX6.out.shape (by decide), Below.setCell (p := ⟨bx, 0, none⟩) HE8.out (Nat.le_refl _) _⟩
end Go.Proofs.YtdhgdachchhflaaGreatDoor
namespace Go.Proofs.YtdhgdachchhflaaGreatDoor
open Go.RowKit Go.Dig
set_option maxRecDepth 100000
set_option maxHeartbeats 400000 in
theorem natMake_cap (g : Nat) (w : World) : Calls Tryz.prog 82 #[.slice (some ⟨g, 0, none⟩) 1 1, .int .i64 1] w fun e w' => e = .returned (.slice (some ⟨g, 0, none⟩) 1 1) ∧ w' = w := by
  go_enter Tryz.func82, Tryz.ntmps82
  go_wp2_with fail
  go_ret
  exact ⟨rfl, rfl⟩
set_option maxHeartbeats 400000 in
theorem setWord_cap (g : Nat) (w : World) (hB : BlkN .u64 136 w g [1]) : Calls Tryz.prog 75 #[.slice (some ⟨g, 0, none⟩) 1 1, .int .u64 1] w fun e w' => e = .returned (.slice (some ⟨g, 0, none⟩) 1 1) ∧ w' = w.setCell ⟨g, 0, none⟩ (.int .u64 1) := by
  have hc := hB.at (i := 0) (by simp)
  have hf := Blk.frozen hB 0
  clear hB
  go_enter Tryz.func75, Tryz.ntmps75
  go_wp2_with fail
  refine (natMake_cap g w).mono ?_
  rintro e w' ⟨rfl, rfl⟩
  go_wp2_with fail
  go_ret
  exact ⟨rfl, rfl⟩
set_option maxHeartbeats 1000000 in
/-- Rat.norm of 0. -/
theorem norm_zero (bx g : Nat) (s : Bool) (w : World) (hx : Blk w bx #[.bool s, .slice none 0 0, .bool false, .slice (some ⟨g, 0, none⟩) 1 1] 103) (hB : BlkN .u64 136 w g [1]) (hg : bx < g) :
    Calls Tryz.prog 49 #[.pointer (some ⟨bx, 0, none⟩)] w fun e w' => e = .returned (.pointer (some ⟨bx, 0, none⟩)) ∧ Blk w' bx #[.bool false, .slice none 0 0, .bool false, .slice (some ⟨g, 0, none⟩) 1 1] 103 ∧ BlkN .u64 136 w' g [1] ∧ Below bx w w' := by
  have HX := hid hx
  have HB := hid hB
  have x0 := hx.cell 0
  have x1 := hx.cell 1
  have x3 := hx.cell 3
  have f0 := hx.frozen 0
  simp only [List.getElem?_toArray, List.getElem?_cons_zero, List.getElem?_cons_succ] at x0 x1 x3
  have k3 : (w.setCell ⟨bx, 0, none⟩ (.bool false)).cell? ⟨bx, 3, none⟩ = some (.slice (some ⟨g, 0, none⟩) 1 1) := (hx.set 0 (.bool false)).cell 3
  clear hx hB
  go_enter_defers Tryz.func49, Tryz.ntmps49
  go_wp2_with fail
  have HX1 : Hid (Blk (w.setCell ⟨bx, 0, none⟩ (.bool false)) bx #[.bool false, .slice none 0 0, .bool false, .slice (some ⟨g, 0, none⟩) 1 1] 103) := by
    have := HX.out.set 0 (.bool false)
    refine hid ?_
    simpa using this
  have HB1 := hid (HB.out.far1 (i := 0) (show g ≠ bx by omega) (.bool false))
  have HE1 : Hid (Below bx w (w.setCell ⟨bx, 0, none⟩ (.bool false))) := hid (Below.setCell (p := ⟨bx, 0, none⟩) (Below.refl _ _) (Nat.le_refl _) _)
  clear x0 x1 x3 f0 k3 HX HB
  generalize w.setCell ⟨bx, 0, none⟩ (.bool false) = w1 at *
  refine (setWord_cap g w1 HB1.out).mono ?_
  rintro e w2 ⟨rfl, hw2⟩
  have HB2 : Hid (BlkN .u64 136 w2 g [1]) := hid (by rw [hw2]; exact BlkN.put HB1.out 0 1)
  have HX2 := hid (show Blk w2 bx _ 103 by rw [hw2]; exact HX1.out.far1 (show bx ≠ g by omega) _)
  have HE2 : Hid (Below bx w w2) := hid (by rw [hw2]; exact Below.setCell (p := ⟨g, 0, none⟩) HE1.out (Nat.le_of_lt hg) _)
  clear hw2 HB1 HX1 HE1
  have y3 := HX2.out.cell 3
  have g3 := HX2.out.frozen 3
  simp only [List.getElem?_toArray, List.getElem?_cons_zero, List.getElem?_cons_succ] at y3
  go_wp2_with fail
  have HX3 : Blk (w2.setCell ⟨bx, 3, none⟩ (.slice (some ⟨g, 0, none⟩) 1 1)) bx #[.bool false, .slice none 0 0, .bool false, .slice (some ⟨g, 0, none⟩) 1 1] 103 := by
    have := HX2.out.set 3 (.slice (some ⟨g, 0, none⟩) 1 1)
    simpa using this
  exact ⟨_, results_tmp rfl _ _ _, rfl, HX3, HB2.out.far1 (show g ≠ bx by omega) _, Below.setCell (p := ⟨bx, 3, none⟩) HE2.out (Nat.le_refl _) _⟩
end Go.Proofs.YtdhgdachchhflaaGreatDoor
namespace Go.Proofs.YtdhgdachchhflaaGreatDoor
open Go.RowKit Go.Dig
set_option maxRecDepth 100000
theorem eql_ptr_same {P : Program} (w : World) {tp te : TypeId} {j : TypeInfo} (a : Addr) (hp : P.underlying tp = some (.pointer te)) (hte : P.info? te = some j) :
    (binOp .eql tp (.pointer (some a)) (.pointer (some a))).run P w = .ok (.bool true) w := by
  have h : ∀ d : Nat, (Op.equalIn (d + 1) tp (.pointer (some a)) (.pointer (some a))).run P w = .ok true w := fun d => by
    simp [Op.equalIn, run_underlying hp, sizeOf, typeInfo, hte, run_sameAddr_same]
  simp only [binOp]
  simp [Op.equal, Op.maxDepth, h 9999]
set_option maxHeartbeats 400000 in
theorem same_word (g : Nat) (w : World) : Calls Tryz.prog 93 #[.slice (some ⟨g, 0, none⟩) 1 1, .slice (some ⟨g, 0, none⟩) 1 1] w fun e w' => e = .returned (.bool true) ∧ ∃ k, w' = w.drewN k := by
  obtain ⟨j, hj⟩ : ∃ j, Tryz.prog.info? 136 = some j := by
    obtain ⟨i, hi, _⟩ := Option.map_eq_some_iff.1 info158
    exact ⟨i, hi⟩
  have he := fun W => eql_ptr_same (P := Tryz.prog) W (tp := 180) (te := 136) ⟨g, 0, none⟩ Tryz.underlying180 hj
  clear hj
  go_enter Tryz.func93, Tryz.ntmps93
  go_wp2_with fail
  go_quiet (fail)
  go_wp2_with fail
  go_ret
  exact ⟨rfl, _, rfl⟩
set_option maxHeartbeats 400000 in
theorem same_nil (w : World) : Calls Tryz.prog 93 #[.slice none 0 0, .slice none 0 0] w fun e w' => e = .returned (.bool false) ∧ ∃ k, w' = w.drewN k := by
  go_enter Tryz.func93, Tryz.ntmps93
  go_wp2_with fail
  go_quiet (fail)
  go_wp2_with fail
  go_ret
  exact ⟨rfl, _, rfl⟩
set_option maxHeartbeats 400000 in
theorem alias_nil (w : World) : Calls Tryz.prog 94 #[.slice none 0 0, .slice none 0 0] w fun e w' => e = .returned (.bool false) ∧ ∃ k, w' = w.drewN k := by
  go_enter Tryz.func94, Tryz.ntmps94
  go_wp2_with fail
  go_quiet (fail)
  go_wp2_with fail
  go_ret
  exact ⟨rfl, _, rfl⟩
set_option maxHeartbeats 400000 in
/-- Shifted by nothing: itself. -/
theorem lsh_zero (B m : Nat) (v : Value) (w : World) (hv : Wd w B v m) : Calls Tryz.prog 68 #[v, v, .int .u64 0] w fun e w' => ∃ v', e = .returned v' ∧ (v' = v ∧ Wd w' B v m) ∧ Below w.heap.size w w' := by
  rcases hv with ⟨rfl, rfl⟩ | ⟨h0, g, hg, rfl, hB⟩
  · go_enter Tryz.func68, Tryz.ntmps68
    go_wp2_with fail
    refine (same_nil w).mono ?_
    rintro e w1 ⟨rfl, k, rfl⟩
    go_wp2_with fail
    refine (alias_nil _).mono ?_
    rintro e w1 ⟨rfl, k2, rfl⟩
    go_wp2_with fail
    refine (nset_any (.slice none 0 0) 0 _ (by rw [Nw, dg_zero]; exact Rt.nil _ _ _) (by rw [dg_zero]; simp)).mono ?_
    rintro e w2 ⟨v, rfl, _, hd, hb⟩
    obtain rfl : v = .slice none 0 0 := by
      rcases hd (by omega) with ⟨_, h⟩ | ⟨h, _⟩
      · exact h
      · exact absurd rfl h
    have HB : Hid (Below w.heap.size w w2) := hid ((below_drewN' (k + k2)).trans hb)
    clear hd hb
    go_wp2_with fail
    go_ret
    exact ⟨_, rfl, ⟨rfl, .inl ⟨rfl, rfl⟩⟩, HB.out⟩
  · have HB := hid hB
    clear hB
    go_enter Tryz.func68, Tryz.ntmps68
    go_wp2_with fail
    refine (same_word g w).mono ?_
    rintro e w1 ⟨rfl, k, rfl⟩
    go_wp2_with fail
    go_ret
    exact ⟨_, rfl, ⟨rfl, .inr ⟨h0, g, hg, rfl, HB.out⟩⟩, below_drewN' k⟩
end Go.Proofs.YtdhgdachchhflaaGreatDoor
