/- Walks and lemmas for the laws of this seat. -/
import Derived.Test.YtocahcammjoffaaGreatDoorN13h
import Derived.Deep.RegionHeld
import Derived.Deep.RegionWith
namespace Go.Proofs.YtocahcammjoffaaGreatDoor
open Go.RowKit Go.Dig
set_option maxRecDepth 100000
set_option maxHeartbeats 2000000 in
theorem intAdd_other (s : Bool) (bz bx b2 : Nat) (m n : Nat) (w : World) (hz : Blk w bz #[.bool false, .slice none 0 0] 203) (hx : Iv w bx s m) (hy : Iv w b2 (!s) n) (hm : m < 18446744073709551616) (hn : n < 18446744073709551616) (hxz : bx ≠ bz) (hyz : b2 ≠ bz) :
    Calls Tryz.prog 126 #[.pointer (some ⟨bz, 0, none⟩), .pointer (some ⟨bx, 0, none⟩), .pointer (some ⟨b2, 0, none⟩)] w (Zd w bz (sgn s m + sgn (!s) n)) := by
  obtain ⟨vx, hBx, hNx⟩ := hx
  obtain ⟨vy, hBy, hNy⟩ := hy
  obtain ⟨ax, lx, cx, rfl, _⟩ := nw_shape hNx
  obtain ⟨ay, ly, cy, rfl, _⟩ := nw_shape hNy
  have HX := hid hNx
  have HY := hid hNy
  have HZ := hid hz
  have hx0 := hBx.cell 0
  have hx1 := hBx.cell 1
  have hy0 := hBy.cell 0
  have hy1 := hBy.cell 1
  have hz1 := hz.cell 1
  simp only [List.getElem?_toArray, List.getElem?_cons_zero, List.getElem?_cons_succ] at hx0 hx1 hy0 hy1 hz1
  have hxl := hBx.lt
  have hyl := hBy.lt
  have hzl := hz.lt
  clear hNx hNy hBx hBy hz
  obtain ⟨SS, hS⟩ : ∃ SS, sgn s m + sgn (!s) n = SS := ⟨_, rfl⟩
  have HS := hid hS
  rw [hS]
  clear hS
  rcases Nat.lt_or_ge m n with h | h
  · have ec : cmpI m n = -1 := by rw [cmpI, if_pos h]
    have HC := hid h
    clear h
    go_enter Tryz.func126, Tryz.ntmps126
    go_wp2_with fail
    go_quiet (fail)
    have HXq : Hid (Nw (w.drewN nq) (.slice ax lx cx) m) := HX.out.below (below_drewN' nq) (Nat.le_refl _)
    have HYq : Hid (Nw (w.drewN nq) (.slice ay ly cy) n) := HY.out.below (below_drewN' nq) (Nat.le_refl _)
    have HZq : Hid (Blk (w.drewN nq) bz #[.bool false, .slice none 0 0] 203) := HZ.out.below (below_drewN' nq) HZ.out.lt
    have hxq : (w.drewN nq).cell? ⟨bx, 1, none⟩ = some (.slice ax lx cx) := (((below_drewN' nq)).cell hxl).trans hx1
    have hyq : (w.drewN nq).cell? ⟨b2, 1, none⟩ = some (.slice ay ly cy) := (((below_drewN' nq)).cell hyl).trans hy1
    have hzq : (w.drewN nq).cell? ⟨bz, 1, none⟩ = some (.slice none 0 0) := (((below_drewN' nq)).cell hzl).trans hz1
    have HLq : Hid (Below w.heap.size w (w.drewN nq)) := below_drewN' nq
    generalize w.drewN nq = w0 at *
    go_wp2_with fail
    have hxd : w0.drew.cell? ⟨bx, 1, none⟩ = some (.slice ax lx cx) := hxq
    have hyd : w0.drew.cell? ⟨b2, 1, none⟩ = some (.slice ay ly cy) := hyq
    go_region_held (fun w' => w'.cell? ⟨bx, 1, none⟩ = some (.slice ax lx cx) ∧ w'.cell? ⟨b2, 1, none⟩ = some (.slice ay ly cy))
      (first | with_reducible exact ⟨hxd, hyd⟩ | with_reducible exact ⟨hxc, hyc⟩)
      (first | (go_at_call 207; refine (ncmp_b _ _ m n w0.drew (HXq.out.below (below_drewN' 1) (Nat.le_refl _)) (HYq.out.below (below_drewN' 1) (Nat.le_refl _)) hm hn).mono ?_; rintro e wj ⟨rfl, hbj⟩; rw [ec]; have HL2 : Hid (Below w.heap.size w wj) := (HLq.out.drewN 1).trans (hbj.mono HLq.out.size); have hxc := (HL2.out.cell (p := ⟨bx, 1, none⟩) hxl).trans hx1; have hyc := (HL2.out.cell (p := ⟨b2, 1, none⟩) hyl).trans hy1; clear hbj))
    all_goals
      clear hxd hyd hxc hyc HXq HYq HZq hxq hyq hzq HLq ec
      have HXq : Hid (Nw wj (.slice ax lx cx) m) := HX.out.below HL2.out (Nat.le_refl _)
      have HYq : Hid (Nw wj (.slice ay ly cy) n) := HY.out.below HL2.out (Nat.le_refl _)
      have HZq : Hid (Blk wj bz #[.bool false, .slice none 0 0] 203) := HZ.out.below HL2.out HZ.out.lt
      have hxq : wj.cell? ⟨bx, 1, none⟩ = some (.slice ax lx cx) := ((HL2.out).cell hxl).trans hx1
      have hyq : wj.cell? ⟨b2, 1, none⟩ = some (.slice ay ly cy) := ((HL2.out).cell hyl).trans hy1
      have hzq : wj.cell? ⟨bz, 1, none⟩ = some (.slice none 0 0) := ((HL2.out).cell hzl).trans hz1
      have HLq : Hid (Below w.heap.size w wj) := HL2
      clear HL2
      obtain ⟨w0, rfl⟩ : ∃ w0, w0 = wj := ⟨_, rfl⟩
      go_wp2_with fail
      have h := HC.out
      have hxd : w0.drew.cell? ⟨bx, 1, none⟩ = some (.slice ax lx cx) := hxq
      have hyd : w0.drew.cell? ⟨b2, 1, none⟩ = some (.slice ay ly cy) := hyq
      have hzd : w0.drew.cell? ⟨bz, 1, none⟩ = some (.slice none 0 0) := hzq
      go_region_with
        (first | (go_at_call 208; refine (nsub_small w0.drew _ _ n m (HYq.out.below (below_drewN' 1) (Nat.le_refl _)) (HXq.out.below (below_drewN' 1) (Nat.le_refl _)) hn (by omega)).mono ?_; rintro e w1 ⟨v, rfl, hv, hb⟩; obtain ⟨az, L, cz, rfl, HL⟩ := nw_shape hv; have HB : Hid (Below w.heap.size w w1) := (HLq.out.trans (((below_drewN' 1).trans hb).mono HLq.out.size)); have HH := hid (zh_of HZ.out HB.out hv); have hxc := (HB.out.cell (p := ⟨bx, 1, none⟩) hxl).trans hx1; have hyc := (HB.out.cell (p := ⟨b2, 1, none⟩) hyl).trans hy1; have hB1 := HZ.out.below HB.out HZ.out.lt; have hzc := hB1.cell 1; simp only [List.getElem?_toArray, List.getElem?_cons_zero, List.getElem?_cons_succ] at hzc; have fzc := hB1.frozen 1; have hxs := (World.cell?_setCell_other w1 ⟨bz, 1, none⟩ ⟨bx, 1, none⟩ (.slice az L cz) (fun e => hxz (congrArg Addr.block e).symm)).trans hxc; have hys := (World.cell?_setCell_other w1 ⟨bz, 1, none⟩ ⟨b2, 1, none⟩ (.slice az L cz) (fun e => hyz (congrArg Addr.block e).symm)).trans hyc; clear hv hb hB1))
      all_goals
        clear hxc hyc hxs hys hzc fzc
        generalize w1.setCell ⟨bz, 1, none⟩ (.slice az L cz) = w2 at *
        obtain ⟨g0, g1, f0⟩ := HH.out.cells
        have PF : Hid (∀ u, (n - m = 0 ∨ u = (!s)) → sgn u (n - m) = SS) := by
          intro u hs
          have e1 : sgn (!s) (n - m) = SS := by
            rw [← HS.out]
            exact sgn_sub_lt s HC.out
          rw [← e1]
          rcases hs with hs | hs
          · rw [hs]; cases u <;> cases ((!s)) <;> rfl
          · rw [hs]
        by_cases hk : n - m = 0
        · have HK := hid hk
          obtain rfl : L = 0 := by rw [HL.out, hk, dg_zero]; rfl
          clear hk
          go_wp2_with fail
          go_ret
          exact HH.out.done _ (PF.out _ (.inl HK.out))
        · have hl := len_pos hk
          rw [← HL.out] at hl
          clear hk
          go_wp2_with fail
          go_ret
          exact HH.out.done _ (PF.out _ (.inr rfl))
  · obtain ⟨c, ec, hc0⟩ : ∃ c, cmpI m n = c ∧ (c = 0 ∨ c = 1) := by
      rcases Nat.eq_or_lt_of_le h with h' | h'
      · exact ⟨0, by rw [cmpI, if_neg (by omega), if_pos (by omega)], .inl rfl⟩
      · exact ⟨1, by rw [cmpI, if_neg (by omega), if_neg (by omega)], .inr rfl⟩
    have HC := hid h
    have hc1 : 0 ≤ c := by omega
    clear h hc0
    go_enter Tryz.func126, Tryz.ntmps126
    go_wp2_with fail
    go_quiet (fail)
    have HXq : Hid (Nw (w.drewN nq) (.slice ax lx cx) m) := HX.out.below (below_drewN' nq) (Nat.le_refl _)
    have HYq : Hid (Nw (w.drewN nq) (.slice ay ly cy) n) := HY.out.below (below_drewN' nq) (Nat.le_refl _)
    have HZq : Hid (Blk (w.drewN nq) bz #[.bool false, .slice none 0 0] 203) := HZ.out.below (below_drewN' nq) HZ.out.lt
    have hxq : (w.drewN nq).cell? ⟨bx, 1, none⟩ = some (.slice ax lx cx) := (((below_drewN' nq)).cell hxl).trans hx1
    have hyq : (w.drewN nq).cell? ⟨b2, 1, none⟩ = some (.slice ay ly cy) := (((below_drewN' nq)).cell hyl).trans hy1
    have hzq : (w.drewN nq).cell? ⟨bz, 1, none⟩ = some (.slice none 0 0) := (((below_drewN' nq)).cell hzl).trans hz1
    have HLq : Hid (Below w.heap.size w (w.drewN nq)) := below_drewN' nq
    generalize w.drewN nq = w0 at *
    go_wp2_with fail
    have hxd : w0.drew.cell? ⟨bx, 1, none⟩ = some (.slice ax lx cx) := hxq
    have hyd : w0.drew.cell? ⟨b2, 1, none⟩ = some (.slice ay ly cy) := hyq
    go_region_held (fun w' => w'.cell? ⟨bx, 1, none⟩ = some (.slice ax lx cx) ∧ w'.cell? ⟨b2, 1, none⟩ = some (.slice ay ly cy))
      (first | with_reducible exact ⟨hxd, hyd⟩ | with_reducible exact ⟨hxc, hyc⟩)
      (first | (go_at_call 207; refine (ncmp_b _ _ m n w0.drew (HXq.out.below (below_drewN' 1) (Nat.le_refl _)) (HYq.out.below (below_drewN' 1) (Nat.le_refl _)) hm hn).mono ?_; rintro e wj ⟨rfl, hbj⟩; rw [ec]; have HL2 : Hid (Below w.heap.size w wj) := (HLq.out.drewN 1).trans (hbj.mono HLq.out.size); have hxc := (HL2.out.cell (p := ⟨bx, 1, none⟩) hxl).trans hx1; have hyc := (HL2.out.cell (p := ⟨b2, 1, none⟩) hyl).trans hy1; clear hbj))
    all_goals
      clear hxd hyd hxc hyc HXq HYq HZq hxq hyq hzq HLq ec
      have HXq : Hid (Nw wj (.slice ax lx cx) m) := HX.out.below HL2.out (Nat.le_refl _)
      have HYq : Hid (Nw wj (.slice ay ly cy) n) := HY.out.below HL2.out (Nat.le_refl _)
      have HZq : Hid (Blk wj bz #[.bool false, .slice none 0 0] 203) := HZ.out.below HL2.out HZ.out.lt
      have hxq : wj.cell? ⟨bx, 1, none⟩ = some (.slice ax lx cx) := ((HL2.out).cell hxl).trans hx1
      have hyq : wj.cell? ⟨b2, 1, none⟩ = some (.slice ay ly cy) := ((HL2.out).cell hyl).trans hy1
      have hzq : wj.cell? ⟨bz, 1, none⟩ = some (.slice none 0 0) := ((HL2.out).cell hzl).trans hz1
      have HLq : Hid (Below w.heap.size w wj) := HL2
      clear HL2
      obtain ⟨w0, rfl⟩ : ∃ w0, w0 = wj := ⟨_, rfl⟩
      go_wp2_with fail
      have h := HC.out
      have hxd : w0.drew.cell? ⟨bx, 1, none⟩ = some (.slice ax lx cx) := hxq
      have hyd : w0.drew.cell? ⟨b2, 1, none⟩ = some (.slice ay ly cy) := hyq
      have hzd : w0.drew.cell? ⟨bz, 1, none⟩ = some (.slice none 0 0) := hzq
      go_region_with
        (first | (go_at_call 208; refine (nsub_small w0.drew _ _ m n (HXq.out.below (below_drewN' 1) (Nat.le_refl _)) (HYq.out.below (below_drewN' 1) (Nat.le_refl _)) hm (by omega)).mono ?_; rintro e w1 ⟨v, rfl, hv, hb⟩; obtain ⟨az, L, cz, rfl, HL⟩ := nw_shape hv; have HB : Hid (Below w.heap.size w w1) := (HLq.out.trans (((below_drewN' 1).trans hb).mono HLq.out.size)); have HH := hid (zh_of HZ.out HB.out hv); have hxc := (HB.out.cell (p := ⟨bx, 1, none⟩) hxl).trans hx1; have hyc := (HB.out.cell (p := ⟨b2, 1, none⟩) hyl).trans hy1; have hB1 := HZ.out.below HB.out HZ.out.lt; have hzc := hB1.cell 1; simp only [List.getElem?_toArray, List.getElem?_cons_zero, List.getElem?_cons_succ] at hzc; have fzc := hB1.frozen 1; have hxs := (World.cell?_setCell_other w1 ⟨bz, 1, none⟩ ⟨bx, 1, none⟩ (.slice az L cz) (fun e => hxz (congrArg Addr.block e).symm)).trans hxc; have hys := (World.cell?_setCell_other w1 ⟨bz, 1, none⟩ ⟨b2, 1, none⟩ (.slice az L cz) (fun e => hyz (congrArg Addr.block e).symm)).trans hyc; clear hv hb hB1))
      all_goals
        clear hxc hyc hxs hys hzc fzc
        generalize w1.setCell ⟨bz, 1, none⟩ (.slice az L cz) = w2 at *
        obtain ⟨g0, g1, f0⟩ := HH.out.cells
        have PF : Hid (∀ u, (m - n = 0 ∨ u = s) → sgn u (m - n) = SS) := by
          intro u hs
          have e1 : sgn s (m - n) = SS := by
            rw [← HS.out]
            exact sgn_sub_ge s HC.out
          rw [← e1]
          rcases hs with hs | hs
          · rw [hs]; cases u <;> cases (s) <;> rfl
          · rw [hs]
        by_cases hk : m - n = 0
        · have HK := hid hk
          obtain rfl : L = 0 := by rw [HL.out, hk, dg_zero]; rfl
          clear hk
          go_wp2_with fail
          go_ret
          exact HH.out.done _ (PF.out _ (.inl HK.out))
        · have hl := len_pos hk
          rw [← HL.out] at hl
          clear hk
          go_wp2_with fail
          go_ret
          exact HH.out.done _ (PF.out _ (.inr rfl))
end Go.Proofs.YtocahcammjoffaaGreatDoor
