/- Walks and lemmas for the laws of this seat. -/
import Derived.Test.YtgdgklhfakplhaaGreatDoorH28
import Derived.Test.YtgdgklhfakplhaaGreatDoorH15
namespace Go.Proofs.YtgdgklhfakplhaaGreatDoor
open Go.RowKit Go.Dig
set_option maxRecDepth 100000
theorem eql_ptr_other {P : Program} (w : World) {tp te : TypeId} {j : TypeInfo} {a b : Addr} {ca cb : Array Value} {ta tb : TypeId} (hp : P.underlying tp = some (.pointer te)) (hte : P.info? te = some j) (hsz : j.size ≠ 0)
    (hne : a ≠ b) (ha : w.heap[a.block]? = some (.cells ca ta (0, 0))) (hb : w.heap[b.block]? = some (.cells cb tb (0, 0))) :
    (binOp .eql tp (.pointer (some a)) (.pointer (some b))).run P w = .ok (.bool false) w := by
  have h : ∀ d : Nat, (Op.equalIn (d + 1) tp (.pointer (some a)) (.pointer (some b))).run P w = .ok false w := fun d => by
    simp [Op.equalIn, run_underlying hp, sizeOf, typeInfo, hte, hsz, run_sameAddr_other w hne ha hb]
  simp only [binOp]
  simp [Op.equal, Op.maxDepth, h 9999]
set_option maxHeartbeats 400000 in
/-- Int.Cmp of two words that are not negative. -/
theorem intCmp_word (b1 b2 m n : Nat) (v1 v2 : Value) (w : World) (h1 : Blk w b1 #[.bool false, v1] 124) (h2 : Blk w b2 #[.bool false, v2] 124) (n1 : Nw w v1 m) (n2 : Nw w v2 n) (hm : m < 18446744073709551616) (hn : n < 18446744073709551616) (hne : b1 ≠ b2) :
    Calls Tryz.prog 137 #[.pointer (some ⟨b1, 0, none⟩), .pointer (some ⟨b2, 0, none⟩)] w fun e w' => e = .returned (.int .i64 (cmpI m n)) ∧ ∃ k, w' = w.drewN k := by
  obtain ⟨j, hj, hjs⟩ : ∃ j, Tryz.prog.info? 124 = some j ∧ j.size ≠ 0 := by
    have h : (Tryz.prog.info? 124).map (·.size) = some 2 := by kernel_rfl
    obtain ⟨j, hj, e⟩ := Option.map_eq_some_iff.1 h
    exact ⟨j, hj, by rw [e]; omega⟩
  have heq := eql_ptr_other (P := Tryz.prog) w (tp := 71) (te := 124) (a := ⟨b1, 0, none⟩) (b := ⟨b2, 0, none⟩) Tryz.underlying71 hj hjs (fun h => hne (congrArg Addr.block h)) h1 h2
  obtain ⟨a1, l1, c1, rfl, _⟩ := nw_shape n1
  obtain ⟨a2, l2, c2, rfl, _⟩ := nw_shape n2
  have HC := hid (fun k => ncmp_small (.slice a1 l1 c1) (.slice a2 l2 c2) m n (w.drewN k) (n1.below (below_drewN' k) (Nat.le_refl _)) (n2.below (below_drewN' k) (Nat.le_refl _)) hm hn)
  obtain ⟨x0, x1, _, _⟩ := two_cells h1
  obtain ⟨y0, y1, _, _⟩ := two_cells h2
  clear h1 h2 n1 n2 hj hjs
  generalize cmpI m n = r at *
  go_enter Tryz.func137, Tryz.ntmps137
  go_wp2_with fail
  go_quiet (fail)
  have z0 : (w.drewN nq).cell? ⟨b1, 0, none⟩ = some (.bool false) := x0
  have z1 : (w.drewN nq).cell? ⟨b1, 1, none⟩ = some (.slice a1 l1 c1) := x1
  have z2 : (w.drewN nq).cell? ⟨b2, 1, none⟩ = some (.slice a2 l2 c2) := y1
  have HC2 : Hid (∀ k, Calls Tryz.prog 147 #[.slice a1 l1 c1, .slice a2 l2 c2] ((w.drewN nq).drewN k) fun e w' => e = .returned (.int .i64 r) ∧ ∃ m, w' = ((w.drewN nq).drewN k).drewN m) := hid (fun k => by have := HC.out (nq + k); rw [← World.drewN_drewN] at this; exact this)
  have HK : Hid (∀ k, ∃ m, (w.drewN nq).drewN k = w.drewN m) := hid (fun k => ⟨nq + k, World.drewN_drewN _ _ _⟩)
  clear x0 x1 y0 y1 heq HC
  generalize w.drewN nq = W at *
  go_wp2_with fail
  go_quiet ((go_at_call 147; exact Calls.quiet_of (HC2.out _)))
  go_wp2_with fail
  go_ret
  obtain ⟨k, hk⟩ := HK.out nq
  exact ⟨rfl, k, hk⟩
end Go.Proofs.YtgdgklhfakplhaaGreatDoor
