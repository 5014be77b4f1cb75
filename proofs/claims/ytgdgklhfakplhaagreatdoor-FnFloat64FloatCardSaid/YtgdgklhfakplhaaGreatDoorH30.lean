/- Walks and lemmas for the laws of this seat. -/
import Derived.Test.YtgdgklhfakplhaaGreatDoorH29
import Derived.Test.YtgdgklhfakplhaaGreatDoorH22
import Derived.Test.YtgdgklhfakplhaaGreatDoorH25
import Derived.Test.YtgdgklhfakplhaaGreatDoorH12
import Derived.Test.YtgdgklhfakplhaaGreatDoorH14
namespace Go.Proofs.YtgdgklhfakplhaaGreatDoor
open Go.RowKit Go.Dig Go.DivPl
set_option maxRecDepth 100000
/-- stack.nat: a row of n words that meets no row that is there. -/
theorem stk_nat0 (K sp n : Nat) (hn : 0 < n) (hn1 : n < 60) (w : World) (h : Stk w K sp none) :
    Calls Tryz.prog 175 #[.pointer (some ⟨sp, 0, none⟩), .int .i64 n] w fun e w' => ∃ (bh : Nat) (hl : List Nat) (ch : Nat) (t' : Option (Nat × Nat × Nat)), e = .returned (.slice (some ⟨bh, 0, none⟩) n ch) ∧ n ≤ ch ∧ Ds w' bh 0 hl ∧ hl.length = n ∧ Stk w' K sp t' ∧ Saf t' bh (0 + n) ∧ tlen t' ≤ n + 3 ∧
      (∀ b o m, Ds w b o m → Ds w' b o m) ∧ (∀ b, b < w.heap.size → Off t' b ∧ b ≠ bh) ∧ Below K w w' ∧ K ≤ bh := by
  have hKs := h.size
  obtain ⟨hK, hsp⟩ := h
  rcases Nat.lt_or_ge 4 n with h4 | h4
  · refine (stkNat_big sp n h4 hn1 w hsp).mono ?_
    rintro e w' ⟨si, g, cap, L, rfl, h1, h2, h3, hl, h5, h6, h7, h8, h9⟩
    refine ⟨g, L.take n, n, some (si, g, 4 * ((n + 3) / 4)), rfl, Nat.le_refl _, h3.take n, by rw [List.length_take]; omega, ⟨hK, by omega, by omega, by omega, h7, cap, L, h8, h3, hl, h5, h6⟩, .inr (by omega), by simp only [tlen]; omega, ?_, ?_, h9.below hK hKs, by omega⟩
    · intro b o m hd
      exact hd.fx h9 (.inl (hd.ne hsp (by decide)))
    · intro b hb
      exact ⟨(by omega : b ≠ g), by omega⟩
  · refine (stkNat_small sp n hn h4 w hsp).mono ?_
    rintro e w' ⟨cap, L, rfl, h1, h2, h3, h5, h6⟩
    refine ⟨w.heap.size, L.take n, cap, none, rfl, h3, h1.take n, by rw [List.length_take]; omega, ⟨hK, hsp.below h6 hsp.lt⟩, trivial, Nat.zero_le _, ?_, ?_, h6.mono hKs, hKs⟩
    · intro b o m hd
      exact hd.below h6 hd.lt
    · intro b hb
      exact ⟨trivial, by omega⟩
theorem Stk.off_new {w : World} {K sp : Nat} {t : Option (Nat × Nat × Nat)} (h : Stk w K sp t) {b : Nat} (hb : w.heap.size ≤ b) : Off t b := by
  rcases t with _ | ⟨si, g, len⟩
  · trivial
  · obtain ⟨_, _, _, _, _, cap, l, _, hg, _⟩ := h
    have := hg.lt
    show b ≠ g
    omega
theorem scaled_state {K sp bh oh b n c kv top : Nat} {t : Option (Nat × Nat × Nat)} {w wA wB : World} {hl vv L l : List Nat} (hst : Stk w K sp t) (hKh : K ≤ bh) (hKb : K ≤ b) (hbh : b ≠ bh) (hsf : Saf t bh (oh + kv)) (hob : Off t b)
    (hh : Ds w bh oh hl) (hL : Ds w b 0 L) (hLl : L.length = c) (hn : n + 1 ≤ c) (hF1 : Fx bh oh kv w wA) (hv : Ds wA bh oh vv) (hvl : vv.length = kv) (hF2 : Fx b 0 n wA wB) (hl2 : Ds wB b 0 l) (hll : l.length = n) :
    ∃ L2, Ds (wB.setCell ⟨b, n, none⟩ (.int .u64 (top : Int))) bh oh vv ∧ Ds (wB.setCell ⟨b, n, none⟩ (.int .u64 (top : Int))) b 0 L2 ∧ L2.length = c ∧ L2.take (n + 1) = l ++ [top] ∧ Stk (wB.setCell ⟨b, n, none⟩ (.int .u64 (top : Int))) K sp t ∧ Below K w (wB.setCell ⟨b, n, none⟩ (.int .u64 (top : Int))) := by
  have hLA := hL.fx hF1 (.inl hbh)
  have h1 := splice_ds hLA hF2 hl2 hll (by omega)
  rw [List.take_zero, List.nil_append, Nat.zero_add] at h1
  have hlen : (l ++ L.drop n).length = c := by rw [List.length_append, List.length_drop]; omega
  have h2 := h1.put (i := n) (by omega) top
  rw [Nat.zero_add] at h2
  have hF3 : Fx b 0 c wA (wB.setCell ⟨b, n, none⟩ (.int .u64 (top : Int))) := (hF2.mono (Nat.le_refl _) (by omega)).setCell (Nat.zero_le _) (by omega) _
  have hlen2 : ((l ++ L.drop n).set n top).length = c := by rw [List.length_set]; exact hlen
  have s1 : Stk wA K sp t := hst.put (by rw [hvl]; exact hsf) hh (by rw [hvl]; exact hF1) hv
  refine ⟨_, hv.fx hF3 (.inl hbh.symm), h2, hlen2, ?_, s1.put (hob.saf _) hLA (by rw [hlen2]; exact hF3) h2, (hF1.below hKh hst.size).trans (hF3.below hKb s1.size)⟩
  have e : (l ++ L.drop n).set n top = l ++ (top :: L.drop (n + 1)) := by
    rw [drop_cons' (by omega), ← hll, List.set_append_right _ _ (Nat.le_refl _), Nat.sub_self]
    rfl
  rw [e, ← hll, List.take_length_add_append]
  rfl
end Go.Proofs.YtgdgklhfakplhaaGreatDoor
namespace Go.Proofs.YtgdgklhfakplhaaGreatDoor
open Go.RowKit Go.Dig
set_option maxRecDepth 100000
/-- What long division keeps from round to round: its four rows, the stack, the world below. -/
structure DivSt (K sp bq bu bv bh oh k m : Nat) (t1 : Option (Nat × Nat × Nat)) (v : List Nat) (w0 w : World) (uu qq hh : List Nat) : Prop where
  du : Ds w bu 0 uu
  dq : Ds w bq 0 qq
  dv : Ds w bv 0 v
  dh : Ds w bh oh hh
  lu : uu.length = m + (k + 2)
  lq : qq.length = m
  lv : v.length = k + 2
  lh : hh.length = k + 3
  st : Stk w K sp t1
  bl : Below K w0 w
  qu : bq ≠ bu
  vq : bv ≠ bq
  vu : bv ≠ bu
  uh : bu ≠ bh
  qh : bq ≠ bh
  vh : bv ≠ bh ∨ k + 2 ≤ oh
  sf : Saf t1 bh (oh + (k + 3))
  ou : Off t1 bu
  oq : Off t1 bq
  kq : K ≤ bq
  ku : K ≤ bu
  kh : K ≤ bh
section
variable {K sp bq bu bv bh oh k m : Nat} {t1 : Option (Nat × Nat × Nat)} {v : List Nat} {w0 w : World} {uu qq hh : List Nat}
theorem DivSt.drewN (h : DivSt K sp bq bu bv bh oh k m t1 v w0 w uu qq hh) (d : Nat) : DivSt K sp bq bu bv bh oh k m t1 v w0 (w.drewN d) uu qq hh :=
  { h with du := h.du, dq := h.dq, dv := h.dv, dh := h.dh, st := h.st.below (below_drewN' d), bl := h.bl.trans (below_drewN' d) }
theorem DivSt.drew (h : DivSt K sp bq bu bv bh oh k m t1 v w0 w uu qq hh) : DivSt K sp bq bu bv bh oh k m t1 v w0 w.drew uu qq hh := h.drewN 1
theorem DivSt.hrow (h : DivSt K sp bq bu bv bh oh k m t1 v w0 w uu qq hh) {w1 : World} {hh' : List Nat} (hf : Fx bh oh (k + 3) w w1) (hd : Ds w1 bh oh hh') (hl : hh'.length = k + 3) : DivSt K sp bq bu bv bh oh k m t1 v w0 w1 uu qq hh' :=
  { h with
    du := h.du.fx hf (.inl h.uh)
    dq := h.dq.fx hf (.inl h.qh)
    dv := h.dv.fx hf (by rcases h.vh with g | g
                         · exact .inl g
                         · exact .inr (.inl (by rw [h.lv]; omega)))
    dh := hd
    lh := hl
    st := h.st.put (by rw [hl]; exact h.sf) h.dh (by rw [hl]; exact hf) hd
    bl := h.bl.trans (hf.below h.kh h.st.size) }
theorem DivSt.urow (h : DivSt K sp bq bu bv bh oh k m t1 v w0 w uu qq hh) {w1 : World} {j n : Nat} {l : List Nat} (hf : Fx bu j n w w1) (hd : Ds w1 bu j l) (hl : l.length = n) (hj : j + n ≤ m + (k + 2)) : DivSt K sp bq bu bv bh oh k m t1 v w0 w1 (uu.take j ++ l ++ uu.drop (j + n)) qq hh :=
  { h with
    du := splice_ds h.du hf hd hl (by rw [h.lu]; exact hj)
    dq := h.dq.fx hf (.inl h.qu)
    dv := h.dv.fx hf (.inl h.vu)
    dh := h.dh.fx hf (.inl h.uh.symm)
    lu := by have := h.lu; simp only [List.length_append, List.length_take, List.length_drop]; omega
    st := by
      have := h.du.sub (i := j) (by rw [h.lu]; omega)
      rw [Nat.zero_add] at this
      exact h.st.put (h.ou.saf _) this (by rw [hl]; exact hf) hd
    bl := h.bl.trans (hf.below h.ku h.st.size) }
theorem DivSt.qset (h : DivSt K sp bq bu bv bh oh k m t1 v w0 w uu qq hh) {j : Nat} (d : Nat) (hj : j < m) : DivSt K sp bq bu bv bh oh k m t1 v w0 (w.setCell ⟨bq, j, none⟩ (.int .u64 (d : Int))) uu (qq.set j d) hh := by
  have hf : Fx bq 0 m w (w.setCell ⟨bq, j, none⟩ (.int .u64 (d : Int))) := (Fx.refl _ _ _ _).setCell (Nat.zero_le _) (by omega) _
  have hd : Ds (w.setCell ⟨bq, j, none⟩ (.int .u64 (d : Int))) bq 0 (qq.set j d) := by
    have := h.dq.put (i := j) (by rw [h.lq]; exact hj) d
    rwa [Nat.zero_add] at this
  have hl : (qq.set j d).length = m := by rw [List.length_set, h.lq]
  exact { h with
    du := h.du.fx hf (.inl h.qu.symm)
    dq := hd
    dv := h.dv.fx hf (.inl h.vq)
    dh := h.dh.fx hf (.inl h.qh.symm)
    lq := hl
    st := h.st.put (h.oq.saf _) h.dq (by rw [hl]; exact hf) hd
    bl := h.bl.trans (hf.below h.kq h.st.size) }
theorem DivSt.uset (h : DivSt K sp bq bu bv bh oh k m t1 v w0 w uu qq hh) {i : Nat} (d : Nat) (hi : i < m + (k + 2)) : DivSt K sp bq bu bv bh oh k m t1 v w0 (w.setCell ⟨bu, i, none⟩ (.int .u64 (d : Int))) (uu.set i d) qq hh := by
  have hf : Fx bu 0 (m + (k + 2)) w (w.setCell ⟨bu, i, none⟩ (.int .u64 (d : Int))) := (Fx.refl _ _ _ _).setCell (Nat.zero_le _) (by omega) _
  have hd : Ds (w.setCell ⟨bu, i, none⟩ (.int .u64 (d : Int))) bu 0 (uu.set i d) := by
    have := h.du.put (i := i) (by rw [h.lu]; exact hi) d
    rwa [Nat.zero_add] at this
  have hl : (uu.set i d).length = m + (k + 2) := by rw [List.length_set, h.lu]
  exact { h with
    du := hd
    dq := h.dq.fx hf (.inl h.qu)
    dv := h.dv.fx hf (.inl h.vu)
    dh := h.dh.fx hf (.inl h.uh.symm)
    lu := hl
    st := h.st.put (h.ou.saf _) h.du (by rw [hl]; exact hf) hd
    bl := h.bl.trans (hf.below h.ku h.st.size) }
/-- The product of the digit: its low words, then its top word. -/
theorem ds_tail {w w1 : World} {b o n c : Nat} {l l' : List Nat} (h : Ds w b o l) (hl : l.length = n + 1) (hf : Fx b o n w w1) (h' : Ds w1 b o l') (hl' : l'.length = n) :
    Ds (w1.setCell ⟨b, o + n, none⟩ (.int .u64 (c : Int))) b o (l' ++ [c]) ∧ Fx b o (n + 1) w (w1.setCell ⟨b, o + n, none⟩ (.int .u64 (c : Int))) := by
  have h2 := (h.sub (i := n) (by omega)).fx hf (.inr (.inr (Nat.le_refl _)))
  have h3 : Ds w1 b o (l' ++ l.drop n) := h'.join (by rw [hl']; exact h2)
  have h4 := h3.put (i := n) (by rw [List.length_append, List.length_drop]; omega) c
  have e : (l' ++ l.drop n).set n c = l' ++ [c] := by
    have : ∃ x, l.drop n = [x] := by
      match hx : l.drop n, (by rw [List.length_drop]; omega : (l.drop n).length = 1) with
      | [x], _ => exact ⟨x, rfl⟩
    obtain ⟨x, hx⟩ := this
    rw [hx, ← hl', List.set_append_right _ _ (Nat.le_refl _), Nat.sub_self]
    rfl
  rw [e] at h4
  exact ⟨h4, (hf.mono (Nat.le_refl _) (by omega)).setCell (by omega) (by omega) _⟩
end
end Go.Proofs.YtgdgklhfakplhaaGreatDoor
namespace Go.Proofs.YtgdgklhfakplhaaGreatDoor
open Go.RowKit Go.Dig
set_option maxRecDepth 100000
theorem mulWW_any (x y : Nat) (hx : x < 18446744073709551616) (hy : y < 18446744073709551616) (w : World) :
    Calls Tryz.prog 204 #[.int .u64 x, .int .u64 y] w fun e w' => e = .returned (.tuple #[.int .u64 ((x * y / 18446744073709551616 : Nat) : Int), .int .u64 ((x * y % 18446744073709551616 : Nat) : Int)]) ∧ ∃ k, w' = w.drewN k := by
  have M := fun w => bitsMul_any x y hx hy w
  generalize x * y / 18446744073709551616 = hi at *
  generalize x * y % 18446744073709551616 = lo at *
  go_enter Tryz.func204, Tryz.ntmps204
  go_wp2_with fail
  refine (M _).mono ?_
  rintro e w' ⟨rfl, rfl⟩
  go_wp2_with fail
  go_ret2
  exact ⟨rfl, 0, rfl⟩
theorem greater_any (x1 x2 y1 y2 : Nat) (hx : x2 < 18446744073709551616) (hy : y2 < 18446744073709551616) (w : World) :
    Calls Tryz.prog 205 #[.int .u64 x1, .int .u64 x2, .int .u64 y1, .int .u64 y2] w fun e w' => e = .returned (.bool (decide (y1 * 18446744073709551616 + y2 < x1 * 18446744073709551616 + x2))) ∧ w' = w := by
  rcases Nat.lt_trichotomy y1 x1 with h | h | h
  · have c1 : decide ((y1 : Int) < (x1 : Int)) = true := decide_eq_true (by omega)
    have c : decide (y1 * 18446744073709551616 + y2 < x1 * 18446744073709551616 + x2) = true := decide_eq_true (by omega)
    rw [c]
    clear c
    go_enter Tryz.func205, Tryz.ntmps205
    go_wp2_with fail
    go_ret
    exact ⟨rfl, rfl⟩
  · subst h
    have c1 : decide ((y1 : Int) < (y1 : Int)) = false := decide_eq_false (by omega)
    have c2 : ((y1 : Int) == (y1 : Int)) = true := by simp
    by_cases h2 : y2 < x2
    · have c3 : decide ((y2 : Int) < (x2 : Int)) = true := decide_eq_true (by omega)
      have c : decide (y1 * 18446744073709551616 + y2 < y1 * 18446744073709551616 + x2) = true := decide_eq_true (by omega)
      rw [c]
      clear c
      go_enter Tryz.func205, Tryz.ntmps205
      go_wp2_with fail
      go_ret
      exact ⟨rfl, rfl⟩
    · have c3 : decide ((y2 : Int) < (x2 : Int)) = false := decide_eq_false (by omega)
      have c : decide (y1 * 18446744073709551616 + y2 < y1 * 18446744073709551616 + x2) = false := decide_eq_false (by omega)
      rw [c]
      clear c
      go_enter Tryz.func205, Tryz.ntmps205
      go_wp2_with fail
      go_ret
      exact ⟨rfl, rfl⟩
  · have c1 : decide ((y1 : Int) < (x1 : Int)) = false := decide_eq_false (by omega)
    have c1' : decide (y1 < x1) = false := decide_eq_false (by omega)
    have c2 : ((x1 : Int) == (y1 : Int)) = false := by simp; omega
    have c : decide (y1 * 18446744073709551616 + y2 < x1 * 18446744073709551616 + x2) = false := decide_eq_false (by omega)
    rw [c]
    clear c
    go_enter Tryz.func205, Tryz.ntmps205
    go_wp2_with fail
    go_ret
    exact ⟨rfl, rfl⟩
end Go.Proofs.YtgdgklhfakplhaaGreatDoor
namespace Go.Proofs.YtgdgklhfakplhaaGreatDoor
open Go.RowKit Go.Dig
set_option maxRecDepth 100000
set_option maxHeartbeats 1000000 in
theorem addvv_in_g (b o cz cx by' oy cy : Nat) (xs ys : List Nat) (w : World) (hz : Ds w b o xs) (hy : Ds w by' oy ys) (hxy : xs.length = ys.length) (hd : by' ≠ b ∨ oy + xs.length ≤ o ∨ o + xs.length ≤ oy) (hk : xs.length < 1000000) (hdx : ∀ d ∈ xs, d < 18446744073709551616) (hdy : ∀ d ∈ ys, d < 18446744073709551616) :
    Calls Tryz.prog 228 #[.slice (some ⟨b, o, none⟩) xs.length cz, .slice (some ⟨b, o, none⟩) xs.length cx, .slice (some ⟨by', oy, none⟩) xs.length cy] w fun e w' => ∃ (l' : List Nat) (c : Nat), e = .returned (.int .u64 (c : Nat)) ∧ l'.length = xs.length ∧ c ≤ 1 ∧ val 18446744073709551616 l' + c * 18446744073709551616 ^ xs.length = val 18446744073709551616 xs + val 18446744073709551616 ys ∧ (∀ d ∈ l', d < 18446744073709551616) ∧ Ds w' b o l' ∧ Fx b o xs.length w w' := by
  have HY := hid hy
  have HD := hid hd
  have HXY := hid hxy
  have HDX := hid hdx
  have HDY := hid hdy
  clear hdx hdy hxy
  go_enter Tryz.func228, Tryz.ntmps228
  go_wp2_with fail
  go_loopw [6, 25] (fun p q wr => ∃ (c i : Nat) (m : List Nat), p = .int .u64 c ∧ q = .int .i64 i ∧ i ≤ xs.length ∧ c ≤ 1 ∧ Hid (m.length = xs.length) ∧ Ds wr b o m ∧ Hid (val 18446744073709551616 (m.take i) + c * 18446744073709551616 ^ i = val 18446744073709551616 (xs.take i) + val 18446744073709551616 (ys.take i)) ∧
    Hid (∀ j, i ≤ j → m.getD j 0 = xs.getD j 0) ∧ Hid (∀ j, j < i → m.getD j 0 < 18446744073709551616) ∧ Fx b o xs.length w wr) (fun _ q _ => xs.length - (intOf q).toNat)
  case atStart => exact ⟨0, 0, xs, rfl, rfl, Nat.zero_le _, by omega, hid rfl, hz, hid (by simp [val]), hid (fun _ _ => rfl), hid (fun j h => absurd h (by omega)), Fx.refl _ _ _ _⟩
  case round =>
    clear hz hy hd
    obtain ⟨c, i, m, rfl, rfl, hi, hc, hml, hBm, hv, hrest, hlow, hb⟩ := hrel
    rcases Nat.lt_or_ge i xs.length with hlt | hge
    · have hy := (HY.out.fx hb (by rw [← HXY.out]; exact HD.out)).cell (i := i) (by rw [← HXY.out]; exact hlt)
      have hcell := hBm.cell (i := i) (by rw [hml.out]; omega)
      rw [hrest.out i (Nat.le_refl _)] at hcell
      generalize hxe : xs.getD i 0 = x at hcell
      generalize hye : ys.getD i 0 = y at hy
      have HXE := hid hxe
      have HYE := hid hye
      clear hxe hye
      have hfr := hBm.frozen (o + i)
      go_wp2_with fail
      go_region_held (fun w' => w'.cell? ⟨b, o + i, none⟩ = some (.int .u64 x) ∧ w'.cell? ⟨by', oy + i, none⟩ = some (.int .u64 y)) (go_keep)
        (first | (go_at_call 168; refine (bitsAdd_any x y c hc _).mono ?_; rintro e w' ⟨rfl, rfl⟩))
      have hb2 : Fx b o xs.length w wr.drew := hb.drew
      have hBm2 : Ds wr.drew b o m := hBm
      have hcell2 : wr.drew.cell? ⟨b, o + i, none⟩ = some (.int .u64 x) := hcell
      have hfr2 : wr.drew.frozen? ⟨b, o + i, none⟩ = false := hfr
      clear hcell hfr hBm hb hy
      generalize wr.drew = wd at *
      have hxw : x < 18446744073709551616 := by rw [← HXE.out]; exact getD_lt (by omega) HDX.out i
      have hyw : y < 18446744073709551616 := by rw [← HYE.out]; exact getD_lt (by omega) HDY.out i
      have HV := hid (addvv_step (B := 18446744073709551616) (l := m) (xs := xs) (ys := ys) (i := i) (c := c) HXE.out HYE.out hlt (by rw [← HXY.out]; exact hlt) (by rw [hml.out]; omega) hv.out)
      have hc2 : (x + y + c) / 18446744073709551616 ≤ 1 := by omega
      have hu1 : (x + y + c) % 18446744073709551616 < 18446744073709551616 := Nat.mod_lt _ (by omega)
      go_wp2_with fail
      go_roundw
      case rel =>
        refine ⟨(x + y + c) / 18446744073709551616, i + 1, m.set i ((x + y + c) % 18446744073709551616), by simp, by go_num, by omega, hc2, hid (by rw [List.length_set]; exact hml.out), ?_, hid HV.out, hid ?_, hid ?_, ?_⟩
        · have := hBm2.put (i := i) (by rw [hml.out]; omega) ((x + y + c) % 18446744073709551616)
          simpa using this
        · intro j hj; rw [set_far (by omega)]; exact hrest.out j (by omega)
        · intro j hj
          rcases Nat.lt_or_ge j i with h | h
          · rw [set_far (by omega)]; exact hlow.out j h
          · obtain rfl : j = i := by omega
            rw [List.getD_eq_getElem?_getD, List.getElem?_set_self (by rw [hml.out]; omega)]; exact hu1
        · have := hb2.setCell (i := o + i) (by omega) (by omega) (.int .u64 (((x + y + c) % 18446744073709551616 : Nat) : Int))
          simpa using this
      case measure => simp [intOf]; omega
    · obtain rfl : i = xs.length := by omega
      go_wp2_with fail
      go_ret
      refine ⟨m, c, rfl, hml.out, hc, ?_, mem_getD (fun i hi => hlow.out i (by rw [← hml.out]; exact hi)), hBm, hb⟩
      have := hv.out
      rw [List.take_length] at this
      have e : ys.take xs.length = ys := by rw [HXY.out, List.take_length]
      have e2 : m.take xs.length = m := by rw [← hml.out, List.take_length]
      rw [e, e2] at this
      exact this
theorem addvv_in (b o cz cx by' oy cy : Nat) (xs ys : List Nat) (w : World) (hz : Ds w b o xs) (hy : Ds w by' oy ys) (hxy : xs.length = ys.length) (hd : by' ≠ b ∨ oy + xs.length ≤ o ∨ o + xs.length ≤ oy) (hk : xs.length < 1000000) (hdx : ∀ d ∈ xs, d < 18446744073709551616) (hdy : ∀ d ∈ ys, d < 18446744073709551616) :
    Calls Tryz.prog 208 #[.slice (some ⟨b, o, none⟩) xs.length cz, .slice (some ⟨b, o, none⟩) xs.length cx, .slice (some ⟨by', oy, none⟩) xs.length cy] w fun e w' => ∃ (l' : List Nat) (c : Nat), e = .returned (.int .u64 (c : Nat)) ∧ l'.length = xs.length ∧ c ≤ 1 ∧ val 18446744073709551616 l' + c * 18446744073709551616 ^ xs.length = val 18446744073709551616 xs + val 18446744073709551616 ys ∧ (∀ d ∈ l', d < 18446744073709551616) ∧ Ds w' b o l' ∧ Fx b o xs.length w w' :=
  addVV_wrap _ _ _ _ _ _ _ _ _ w _ (by rintro e w' ⟨l', c, h1, _⟩; exact ⟨_, h1⟩) (addvv_in_g b o cz cx by' oy cy xs ys w hz hy hxy hd hk hdx hdy)
end Go.Proofs.YtgdgklhfakplhaaGreatDoor
namespace Go.Proofs.YtgdgklhfakplhaaGreatDoor
open Go.RowKit Go.Dig
set_option maxRecDepth 100000
set_option maxHeartbeats 1000000 in
theorem subvv_in_g (b o cz cx by' oy cy : Nat) (xs ys : List Nat) (w : World) (hz : Ds w b o xs) (hy : Ds w by' oy ys) (hxy : xs.length = ys.length) (hd : by' ≠ b ∨ oy + xs.length ≤ o ∨ o + xs.length ≤ oy) (hk : xs.length < 1000000) (hdx : ∀ d ∈ xs, d < 18446744073709551616) (hdy : ∀ d ∈ ys, d < 18446744073709551616) :
    Calls Tryz.prog 227 #[.slice (some ⟨b, o, none⟩) xs.length cz, .slice (some ⟨b, o, none⟩) xs.length cx, .slice (some ⟨by', oy, none⟩) xs.length cy] w fun e w' => ∃ (l' : List Nat) (c : Nat), e = .returned (.int .u64 (c : Nat)) ∧ l'.length = xs.length ∧ c ≤ 1 ∧ val 18446744073709551616 l' + val 18446744073709551616 ys = val 18446744073709551616 xs + c * 18446744073709551616 ^ xs.length ∧ (∀ d ∈ l', d < 18446744073709551616) ∧ Ds w' b o l' ∧ Fx b o xs.length w w' := by
  have HY := hid hy
  have HD := hid hd
  have HXY := hid hxy
  have HDX := hid hdx
  have HDY := hid hdy
  clear hdx hdy hxy
  go_enter Tryz.func227, Tryz.ntmps227
  go_wp2_with fail
  go_loopw [6, 25] (fun p q wr => ∃ (c i : Nat) (m : List Nat), p = .int .u64 c ∧ q = .int .i64 i ∧ i ≤ xs.length ∧ c ≤ 1 ∧ Hid (m.length = xs.length) ∧ Ds wr b o m ∧ Hid (val 18446744073709551616 (m.take i) + val 18446744073709551616 (ys.take i) = val 18446744073709551616 (xs.take i) + c * 18446744073709551616 ^ i) ∧
    Hid (∀ j, i ≤ j → m.getD j 0 = xs.getD j 0) ∧ Hid (∀ j, j < i → m.getD j 0 < 18446744073709551616) ∧ Fx b o xs.length w wr) (fun _ q _ => xs.length - (intOf q).toNat)
  case atStart => exact ⟨0, 0, xs, rfl, rfl, Nat.zero_le _, by omega, hid rfl, hz, hid (by simp [val]), hid (fun _ _ => rfl), hid (fun j h => absurd h (by omega)), Fx.refl _ _ _ _⟩
  case round =>
    clear hz hy hd
    obtain ⟨c, i, m, rfl, rfl, hi, hc, hml, hBm, hv, hrest, hlow, hb⟩ := hrel
    rcases Nat.lt_or_ge i xs.length with hlt | hge
    · have hy := (HY.out.fx hb (by rw [← HXY.out]; exact HD.out)).cell (i := i) (by rw [← HXY.out]; exact hlt)
      have hcell := hBm.cell (i := i) (by rw [hml.out]; omega)
      rw [hrest.out i (Nat.le_refl _)] at hcell
      generalize hxe : xs.getD i 0 = x at hcell
      generalize hye : ys.getD i 0 = y at hy
      have HXE := hid hxe
      have HYE := hid hye
      clear hxe hye
      have hfr := hBm.frozen (o + i)
      go_wp2_with fail
      go_region_held (fun w' => w'.cell? ⟨b, o + i, none⟩ = some (.int .u64 x) ∧ w'.cell? ⟨by', oy + i, none⟩ = some (.int .u64 y)) (go_keep)
        (first | (go_at_call 224; refine (bitsSub_h x y c hc _).mono ?_; rintro e w' ⟨z, c2, rfl, HZ, HC, rfl⟩))
      have hb2 : Fx b o xs.length w wr.drew := hb.drew
      have hBm2 : Ds wr.drew b o m := hBm
      have hcell2 : wr.drew.cell? ⟨b, o + i, none⟩ = some (.int .u64 x) := hcell
      have hfr2 : wr.drew.frozen? ⟨b, o + i, none⟩ = false := hfr
      clear hcell hfr hBm hb hy
      generalize wr.drew = wd at *
      have hxw : x < 18446744073709551616 := by rw [← HXE.out]; exact getD_lt (by omega) HDX.out i
      have hyw : y < 18446744073709551616 := by rw [← HYE.out]; exact getD_lt (by omega) HDY.out i
      have hc2 : c2 ≤ 1 := by rw [HC.out]; split <;> omega
      have hzz : z + y + c = x + c2 * 18446744073709551616 := by rw [HZ.out, HC.out]; split <;> omega
      have HV := hid (subvv_step (B := 18446744073709551616) (l := m) (xs := xs) (ys := ys) (i := i) (c := c) HXE.out HYE.out hlt (by rw [← HXY.out]; exact hlt) (by rw [hml.out]; omega) hzz hv.out)
      clear hzz
      have hu1 : z < 18446744073709551616 := by rw [HZ.out]; exact Nat.mod_lt _ (by omega)
      go_wp2_with fail
      go_roundw
      case rel =>
        refine ⟨c2, i + 1, m.set i (z), by simp, by go_num, by omega, hc2, hid (by rw [List.length_set]; exact hml.out), ?_, hid HV.out, hid ?_, hid ?_, ?_⟩
        · have := hBm2.put (i := i) (by rw [hml.out]; omega) (z)
          simpa using this
        · intro j hj; rw [set_far (by omega)]; exact hrest.out j (by omega)
        · intro j hj
          rcases Nat.lt_or_ge j i with h | h
          · rw [set_far (by omega)]; exact hlow.out j h
          · obtain rfl : j = i := by omega
            rw [List.getD_eq_getElem?_getD, List.getElem?_set_self (by rw [hml.out]; omega)]; exact hu1
        · have := hb2.setCell (i := o + i) (by omega) (by omega) (.int .u64 ((z : Nat) : Int))
          simpa using this
      case measure => simp [intOf]; omega
    · obtain rfl : i = xs.length := by omega
      go_wp2_with fail
      go_ret
      refine ⟨m, c, rfl, hml.out, hc, ?_, mem_getD (fun i hi => hlow.out i (by rw [← hml.out]; exact hi)), hBm, hb⟩
      have := hv.out
      rw [List.take_length] at this
      have e : ys.take xs.length = ys := by rw [HXY.out, List.take_length]
      have e2 : m.take xs.length = m := by rw [← hml.out, List.take_length]
      rw [e, e2] at this
      exact this
theorem subvv_in (b o cz cx by' oy cy : Nat) (xs ys : List Nat) (w : World) (hz : Ds w b o xs) (hy : Ds w by' oy ys) (hxy : xs.length = ys.length) (hd : by' ≠ b ∨ oy + xs.length ≤ o ∨ o + xs.length ≤ oy) (hk : xs.length < 1000000) (hdx : ∀ d ∈ xs, d < 18446744073709551616) (hdy : ∀ d ∈ ys, d < 18446744073709551616) :
    Calls Tryz.prog 207 #[.slice (some ⟨b, o, none⟩) xs.length cz, .slice (some ⟨b, o, none⟩) xs.length cx, .slice (some ⟨by', oy, none⟩) xs.length cy] w fun e w' => ∃ (l' : List Nat) (c : Nat), e = .returned (.int .u64 (c : Nat)) ∧ l'.length = xs.length ∧ c ≤ 1 ∧ val 18446744073709551616 l' + val 18446744073709551616 ys = val 18446744073709551616 xs + c * 18446744073709551616 ^ xs.length ∧ (∀ d ∈ l', d < 18446744073709551616) ∧ Ds w' b o l' ∧ Fx b o xs.length w w' :=
  subVV_wrap _ _ _ _ _ _ _ _ _ w _ (by rintro e w' ⟨l', c, h1, _⟩; exact ⟨_, h1⟩) (subvv_in_g b o cz cx by' oy cy xs ys w hz hy hxy hd hk hdx hdy)
end Go.Proofs.YtgdgklhfakplhaaGreatDoor
