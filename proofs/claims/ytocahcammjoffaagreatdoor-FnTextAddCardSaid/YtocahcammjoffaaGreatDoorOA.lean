/- Walks and lemmas for the laws of this seat. -/
import Derived.Test.YtocahcammjoffaaGreatDoorBs
import Derived.Test.YtocahcammjoffaaGreatDoorPW
import Derived.Laws.Bits64b
import Derived.Laws.AppendOwnNone
import Derived.LaidEqlPtr
namespace Go.Proofs.YtocahcammjoffaaGreatDoor
open Go.RowKit Go.Dig
set_option maxRecDepth 100000
theorem cs_set_list (k : IntKind) (ds : List Nat) (i d : Nat) : (cs k ds).set i (.int k (d : Int)) = cs k (ds.set i d) := by simp [cs]
/-- A cell of a row of the call's own, and the row behind a store into it. -/
theorem own_at {w : World} {base e : Nat} {k : IntKind} {v : Value} {ds : List Nat} (h : w.ownsRow base e 1 v ds.length (cs k ds)) {i : Nat} (hi : i < ds.length) :
    ∃ g cap, v = .slice (some ⟨g, 0, none⟩) ds.length cap ∧ base ≤ g ∧ w.cell? ⟨g, i, none⟩ = some (.int k (ds.getD i 0 : Nat)) ∧ w.frozen? ⟨g, i, none⟩ = false ∧
      ∀ d : Nat, (w.setCell ⟨g, i, none⟩ (.int k (d : Int))).ownsRow base e 1 v (ds.set i d).length (cs k (ds.set i d)) := by
  obtain ⟨hl, h⟩ := h
  rcases h with ⟨rfl, h0⟩ | ⟨g, cap, cur, rfl, hg, hh, hnc, hcm, hcs, htk⟩
  · omega
  · have hB : Blk w g cur e := hh
    rw [Nat.mul_one] at htk hcs
    have hc : cur[i]? = some (.int k (ds.getD i 0 : Nat)) := by
      have e2 : cur[i]? = (cs k ds)[i]? := by
        rw [← htk, List.getElem?_take_of_lt hi]; simp
      rw [e2]
      simp [cs, List.getElem?_eq_getElem hi]
    refine ⟨g, cap, rfl, hg, (hB.cell i).trans hc, hB.frozen i, fun d => ⟨by rw [cs_length, Nat.mul_one], .inr ⟨g, cap, cur.setIfInBounds i (.int k (d : Int)), by rw [List.length_set], hg, hB.set i _, by rw [List.length_set]; exact hnc, hcm, by rw [Array.size_setIfInBounds]; omega, ?_⟩⟩⟩
    rw [Nat.mul_one, List.length_set, ← cs_set_list, ← htk, Array.toList_setIfInBounds, List.take_set]
/-- A word gets its next digit. -/
theorem or_digit {old d r : Nat} (h : old < 65536 ^ r) (hd : d < 65536) (hr : r ≤ 3) : bits .or .u64 (old : Int) (IntKind.u64.wrap ((d : Int) * 65536 ^ r)) = ((old + d * 65536 ^ r : Nat) : Int) := by
  have e0 : (65536 : Nat) ^ r = 2 ^ (16 * r) := by rw [Nat.pow_mul]
  have h1 : (65536 : Nat) ^ r ≤ 65536 ^ 3 := Nat.pow_le_pow_right (by omega) hr
  have h2 : d * 65536 ^ r ≤ 65535 * 65536 ^ 3 := Nat.mul_le_mul (by omega) h1
  have e : IntKind.u64.wrap ((d : Int) * 65536 ^ r) = ((d * 65536 ^ r : Nat) : Int) := by
    rw [IntKind.wrap_u64, show ((d : Int) * 65536 ^ r) = ((d * 65536 ^ r : Nat) : Int) by simp]
    omega
  rw [e, bits_or_u64_nat old (d * 65536 ^ r) (by omega) (by omega)]
  congr 1
  rw [e0] at h ⊢
  rw [← Nat.shiftLeft_eq, Nat.or_comm, ← Nat.shiftLeft_add_eq_or_of_lt h, Nat.add_comm]
theorem neq_ptr_same {P : Program} (w : World) {tp te : TypeId} {j : TypeInfo} (a : Addr) (hp : P.underlying tp = some (.pointer te)) (hte : P.info? te = some j) :
    (binOp .neq tp (.pointer (some a)) (.pointer (some a))).run P w = .ok (.bool false) w := by
  have h : ∀ d : Nat, (Op.equalIn (d + 1) tp (.pointer (some a)) (.pointer (some a))).run P w = .ok true w := fun d => by
    simp [Op.equalIn, run_underlying hp, sizeOf, typeInfo, hte, run_sameAddr_same]
  simp only [binOp]
  simp [Op.equal, Op.maxDepth, h 9999]
theorem neq_ptr_other {P : Program} (w : World) {tp te : TypeId} {j : TypeInfo} {a b : Addr} {ca cb : Array Value} {ta tb : TypeId} (hp : P.underlying tp = some (.pointer te)) (hte : P.info? te = some j) (hsz : j.size ≠ 0)
    (hne : a ≠ b) (ha : w.heap[a.block]? = some (.cells ca ta (0, 0))) (hb : w.heap[b.block]? = some (.cells cb tb (0, 0))) :
    (binOp .neq tp (.pointer (some a)) (.pointer (some b))).run P w = .ok (.bool true) w := by
  have h : ∀ d : Nat, (Op.equalIn (d + 1) tp (.pointer (some a)) (.pointer (some b))).run P w = .ok false w := fun d => by
    simp [Op.equalIn, run_underlying hp, sizeOf, typeInfo, hte, hsz, run_sameAddr_other w hne ha hb]
  simp only [binOp]
  simp [Op.equal, Op.maxDepth, h 9999]
end Go.Proofs.YtocahcammjoffaaGreatDoor
