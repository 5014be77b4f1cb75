/- Big integers of few words: sums, differences, the package's words. -/
import Derived.Test.YtdhgdachchhflaaGreatDoorQA
import Derived.Shelf.Spec.BitsCarry
import Derived.Deep.RegionHeld
import Derived.Laws.IdiomCopy

namespace Go.Proofs.YtdhgdachchhflaaGreatDoor
open Go.RowKit Go.Dig
set_option maxRecDepth 100000
/-- What a word counts to. -/
abbrev WB : Nat := 18446744073709551616
/-- A slice of words that reads as a natural number. -/
abbrev Nw (w : World) (v : Value) (n : Nat) : Prop := Rt 136 .u64 w v (dg 18446744073709551616 n)
/-- A big integer behind a pointer. -/
def Iv (w : World) (b : Nat) (s : Bool) (n : Nat) : Prop := ∃ v, Blk w b #[.bool s, v] 86 ∧ Nw w v n
theorem Iv.below {w w' : World} {b n : Nat} {s : Bool} (h : Iv w b s n) (hb : Below w.heap.size w w') : Iv w' b s n := by
  obtain ⟨v, h1, h2⟩ := h
  exact ⟨v, h1.below hb h1.lt, h2.below hb (Nat.le_refl _)⟩
end Go.Proofs.YtdhgdachchhflaaGreatDoor

namespace Go.Proofs.YtdhgdachchhflaaGreatDoor
open Go.RowKit Go.Dig
set_option maxRecDepth 100000
end Go.Proofs.YtdhgdachchhflaaGreatDoor

namespace Go.Proofs.YtdhgdachchhflaaGreatDoor
open Go.RowKit Go.Dig
set_option maxRecDepth 100000
/-- What makeInt gives: the number itself if it is an int64, else the big one, boxed. -/
def Mk (b : Nat) (x : Int) (v : Value) : Prop := (fitI x = true ∧ v = .iface 94 (.int .i64 x)) ∨ (fitI x = false ∧ v = .iface 96 (.agg #[.pointer (some ⟨b, 0, none⟩)]))
end Go.Proofs.YtdhgdachchhflaaGreatDoor

namespace Go.Proofs.YtdhgdachchhflaaGreatDoor
open Go.RowKit Go.Dig
set_option maxRecDepth 100000
theorem iv_zero (w : World) (s : Bool) : Iv (w.alloc (.cells #[.bool s, .slice none 0 0] 86)) w.heap.size s 0 :=
  ⟨_, blk_new w _ 86, by rw [Nw, dg_zero]; exact Rt.nil _ _ _⟩
theorem dg_one {n : Nat} (h0 : 0 < n) (h1 : n < 18446744073709551616) : dg 18446744073709551616 n = [n] := by
  rw [dg_pos (by omega) (by omega), Nat.mod_eq_of_lt h1, Nat.div_eq_of_lt h1, dg_zero]
theorem iv_new (w : World) (s : Bool) (z : Int) (n : Nat) (hz : z = (n : Int)) (h0 : 0 < n) (h1 : n < 18446744073709551616) :
    Iv ((w.alloc (.cells #[.int .u64 z] 136)).alloc (.cells #[.bool s, .slice (some ⟨w.heap.size, 0, none⟩) 1 1] 86)) (w.heap.size + 1) s n := by
  subst hz
  refine ⟨.slice (some ⟨w.heap.size, 0, none⟩) 1 1, ?_, ?_⟩
  · have := blk_new (w.alloc (.cells #[.int .u64 (n : Int)] 136)) #[.bool s, .slice (some ⟨w.heap.size, 0, none⟩) 1 1] 86
    simpa using this
  · have hB : BlkN .u64 136 (w.alloc (.cells #[.int .u64 (n : Int)] 136)) w.heap.size [n] := blk_new w _ 136
    have h := BlkN.rt hB (cap := 1) (by simp) (by omega)
    rw [← dg_one h0 h1] at h
    rw [show (dg 18446744073709551616 n).length = 1 by rw [dg_one h0 h1]; rfl] at h
    exact h.below ((Below.refl _ _).alloc (Nat.le_refl _) _) (Nat.le_refl _)
set_option maxHeartbeats 400000 in
theorem bigNewInt_any (x : Int) (w : World) (h0 : -9223372036854775808 ≤ x) (h1 : x ≤ 9223372036854775807) : Calls Tryz.prog 78 #[.int .i64 x] w fun e w' => ∃ b, e = .returned (.pointer (some ⟨b, 0, none⟩)) ∧ Hid (w.heap.size ≤ b) ∧ Iv w' b (decide (x < 0)) x.natAbs ∧ Below w.heap.size w w' := by
  rcases Int.lt_trichotomy x 0 with hx | hx | hx
  · obtain ⟨n, rfl⟩ : ∃ n : Nat, x = -(n : Int) := ⟨x.natAbs, by omega⟩
    have hu := u64_neg n (by omega) (by omega)
    rw [Int.natAbs_neg, Int.natAbs_natCast]
    go_enter Tryz.func78, Tryz.ntmps78
    go_wp2_with fail
    go_ret
    have e : decide (-(n : Int) < 0) = true := decide_eq_true hx
    rw [e]
    exact ⟨_, rfl, hid (by omega), iv_new w _ _ n rfl (by omega) (by omega), ((Below.refl _ _).alloc (Nat.le_refl _) _).alloc (by simp) _⟩
  · subst hx
    go_enter Tryz.func78, Tryz.ntmps78
    go_wp2_with fail
    go_ret
    exact ⟨_, rfl, hid (Nat.le_refl _), iv_zero w false, (Below.refl _ _).alloc (Nat.le_refl _) _⟩
  · obtain ⟨n, rfl⟩ : ∃ n : Nat, x = (n : Int) := ⟨x.natAbs, by omega⟩
    rw [Int.natAbs_natCast]
    go_enter Tryz.func78, Tryz.ntmps78
    go_wp2_with fail
    go_ret
    have e : decide ((n : Int) < 0) = false := decide_eq_false (by omega)
    rw [e]
    exact ⟨_, rfl, hid (by omega), iv_new w _ _ n rfl (by omega) (by omega), ((Below.refl _ _).alloc (Nat.le_refl _) _).alloc (by simp) _⟩
end Go.Proofs.YtdhgdachchhflaaGreatDoor
namespace Go.Proofs.YtdhgdachchhflaaGreatDoor
open Go.RowKit Go.Dig
set_option maxRecDepth 100000
theorem info158 : (Tryz.prog.info? 136).map (fun i => (i.zero, i.size, i.bytes)) = some (some (.int .u64 0), 1, 8) := by kernel_rfl
theorem make_words (n m : Nat) (hn : n ≤ m) (hm : m ≤ 1000000) (w : World) :
    (Instr.makeSlice 84 (.int .i64 (n : Int)) (.int .i64 (m : Int))).run Tryz.prog w = .ok (.slice (some ⟨w.heap.size, 0, none⟩) n m) (w.alloc (.cells (madeCells #[.int .u64 0] m) 136)) := by
  obtain ⟨i, hi, hzz⟩ := Option.map_eq_some_iff.1 info158
  simp only [Prod.mk.injEq] at hzz
  obtain ⟨hz, hs, hb⟩ := hzz
  have hr := run_make (P := Tryz.prog) w 84 136 i (.int .u64 0) Tryz.underlying84 hi hz .i64 .i64 n m (by omega) (by omega) (by rw [hb]; omega) (by omega)
  simp only [Int.toNat_natCast, hs, Nat.mul_one] at hr
  exact hr
set_option maxHeartbeats 400000 in
theorem natMake_any (k : Nat) (hk : 1 < k) (hk2 : k < 1000) (w : World) : Calls Tryz.prog 82 #[.slice none 0 0, .int .i64 k] w fun e w' => e = .returned (.slice (some ⟨w.heap.size, 0, none⟩) k (k + 4)) ∧ w' = w.alloc (.cells (cs .u64 (List.replicate (k + 4) 0)).toArray 136) := by
  have hmk := make_words k (k + 4) (by omega) (by omega)
  have ec : ((k + 4 : Nat) : Int) = (k : Int) + 4 := by omega
  rw [ec] at hmk
  go_enter Tryz.func82, Tryz.ntmps82
  go_wp2_with fail
  go_ret
  rw [cs_zeros]
  exact ⟨rfl, rfl⟩
set_option maxHeartbeats 400000 in
theorem natMake_one (w : World) : Calls Tryz.prog 82 #[.slice none 0 0, .int .i64 1] w fun e w' => e = .returned (.slice (some ⟨w.heap.size, 0, none⟩) 1 1) ∧ w' = w.alloc (.cells (cs .u64 [0]).toArray 136) := by
  have hmk : ∀ w, (Instr.makeSlice 84 (.int .i64 1) (.int .i64 1)).run Tryz.prog w = .ok (.slice (some ⟨w.heap.size, 0, none⟩) 1 1) (w.alloc (.cells (madeCells #[.int .u64 0] 1) 136)) := make_words 1 1 (by omega) (by omega)
  go_enter Tryz.func82, Tryz.ntmps82
  go_wp2_with fail
  go_ret
  rw [cs_zeros]
  exact ⟨rfl, rfl⟩
theorem add64_c (x y c : Nat) (hc : c ≤ 1) (w : World) :
    (callFunc 137 #[.int .u64 x, .int .u64 y, .int .u64 c]).run Tryz.prog w =
      .ok (.value (.tuple #[.int .u64 (((x + y + c) % 18446744073709551616 : Nat) : Int), .int .u64 (((x + y + c) / 18446744073709551616 : Nat) : Int)])) w := by
  rw [run_callFunc_extern Tryz.func137 (by kernel_rfl) (by kernel_rfl) (by kernel_rfl) (e := add64Entry) (by kernel_rfl), run_add64 x y c (by omega) (by omega) (by omega) (by omega)]
  simp only [Result.andThen]
  congr 5 <;> omega
theorem sub64_c (x y b : Nat) (hb : b ≤ 1) (w : World) :
    (callFunc 181 #[.int .u64 x, .int .u64 y, .int .u64 b]).run Tryz.prog w =
      .ok (.value (.tuple #[.int .u64 (((x + 18446744073709551616 - y - b) % 18446744073709551616 : Nat) : Int), .int .u64 ((if x < y + b then 1 else 0 : Nat) : Int)])) w := by
  rw [run_callFunc_extern Tryz.func181 (by kernel_rfl) (by kernel_rfl) (by kernel_rfl) (e := sub64Entry) (by kernel_rfl), run_sub64 x y b hb]
  rfl
set_option maxHeartbeats 400000 in
theorem bitsAdd_any (x y c : Nat) (hc : c ≤ 1) (w : World) : Calls Tryz.prog 111 #[.int .u64 x, .int .u64 y, .int .u64 c] w fun e w' => e = .returned (.tuple #[.int .u64 ((x + y + c) % 18446744073709551616 : Nat), .int .u64 ((x + y + c) / 18446744073709551616 : Nat)]) ∧ w' = w := by
  have hr := add64_c x y c hc w
  generalize (x + y + c) % 18446744073709551616 = u at *
  generalize (x + y + c) / 18446744073709551616 = v at *
  go_enter Tryz.func111, Tryz.ntmps111
  go_wp2_with fail
  go_ret2
  exact ⟨rfl, rfl⟩
set_option maxHeartbeats 400000 in
theorem bitsSub_any (x y b : Nat) (hb : b ≤ 1) (w : World) : Calls Tryz.prog 168 #[.int .u64 x, .int .u64 y, .int .u64 b] w fun e w' => e = .returned (.tuple #[.int .u64 ((x + 18446744073709551616 - y - b) % 18446744073709551616 : Nat), .int .u64 ((if x < y + b then 1 else 0 : Nat) : Int)]) ∧ w' = w := by
  have hr := sub64_c x y b hb w
  generalize (x + 18446744073709551616 - y - b) % 18446744073709551616 = u at *
  generalize (if x < y + b then 1 else 0 : Nat) = v at *
  go_enter Tryz.func168, Tryz.ntmps168
  go_wp2_with fail
  go_ret2
  exact ⟨rfl, rfl⟩
end Go.Proofs.YtdhgdachchhflaaGreatDoor
namespace Go.Proofs.YtdhgdachchhflaaGreatDoor
open Go.RowKit Go.Dig
set_option maxRecDepth 100000
set_option maxHeartbeats 400000 in
theorem byDigit_any (va : Value) (n d : Nat) (w : World) (hn : Nt w va n) (hd0 : 0 < d) (hd1 : d < 65536) (hl : (dg 65536 n).length ≤ 100000) :
    Calls Tryz.prog 57 #[va, .int .i64 d] w fun e w' => ∃ v, e = .returned (.tuple #[v, .int .i64 (n % d : Nat)]) ∧ Nt w' v (n / d) ∧ Below w.heap.size w w' := by
  have HR := hid hn
  obtain ⟨a, cap, rfl, h1, h2, h3⟩ := hn
  have HA := hid h3
  clear h3
  have hmk := run_make_row' (P := Tryz.prog) 32 3 (.int .i64 0) 8 Tryz.underlying32 info3 rfl .i64 .i64 (dg 65536 n).length (by omega) (by omega)
  go_enter Tryz.func57, Tryz.ntmps57
  go_wp2_with fail
  go_loopw [7, 8] (fun x y wr => ∃ (m r : Nat) (l : List Nat), x = .int .i64 r ∧ y = .int .i64 ((m : Int) - 1) ∧ m ≤ (dg 65536 n).length ∧ r < d ∧ Hid (r = n / 65536 ^ m % d) ∧ Hid (l.length = (dg 65536 n).length) ∧ BlkN .i64 3 wr w.heap.size l ∧
    Hid (∀ j, m ≤ j → j < l.length → l.getD j 0 = n / d / 65536 ^ j % 65536) ∧ Below w.heap.size w wr) (fun _ y _ => (intOf y + 1).toNat)
  case atStart =>
    refine ⟨_, 0, List.replicate (dg 65536 n).length 0, rfl, rfl, Nat.le_refl _, hd0, ?_, hid (by simp), blkN_made _ _ _ _, hid ?_, (Below.refl _ _).alloc (Nat.le_refl _) _⟩
    · rw [Nat.div_eq_of_lt (lt_pow_dg_length (by omega) n)]; exact hid (by simp)
    · intro j h1 h2; simp at h2; omega
  case round =>
    obtain ⟨m, r, l, rfl, rfl, hm, hrd, hr, hll, hB, hq, hb⟩ := hrel
    rcases Nat.eq_zero_or_pos m with h0 | h0
    · subst h0
      have hR2 := BlkN.rt hB (cap := l.length) (Nat.le_refl _) (by rw [hll.out]; omega)
      rw [hll.out] at hR2
      go_wp2_with fail
      refine (trim_any _ _ _ hR2).mono ?_
      rintro e w1 ⟨v', rfl, hv, rfl⟩
      go_wp2_with fail
      go_ret2
      have e0 : r = n % d := by have := hr.out; rw [Nat.pow_zero, Nat.div_one] at this; exact this
      rw [← e0]
      refine ⟨_, rfl, ?_, hb⟩
      have e1 := digits_trim (b := 65536) (by omega) (l := l) (q := n / d) (by rw [hll.out]; exact Nat.lt_of_le_of_lt (Nat.div_le_self n d) (lt_pow_dg_length (by omega) n)) (fun j hj => hq.out j (Nat.zero_le _) hj)
      rw [e1] at hv
      exact hv
    · obtain ⟨k, rfl⟩ : ∃ k, m = k + 1 := ⟨m - 1, by omega⟩
      obtain ⟨b, off, rfl, _, hb3⟩ := HA.out (by omega)
      have hk := hb3 k (by omega)
      clear hb3
      have hk2 := (hb.cell (World.block_lt_of_cell? w _ hk)).trans hk
      clear hk
      have hdk : (dg 65536 n).getD k 0 = n / 65536 ^ k % 65536 := dg_getD (by omega) n k
      generalize (dg 65536 n).getD k 0 = a at hk2 hdk
      have ha : a < 65536 := by rw [hdk]; exact Nat.mod_lt _ (by omega)
      have HD := hid hdk
      clear hdk
      have hcell := hB.at (i := k) (by rw [hll.out]; omega)
      have hfr := Blk.frozen hB k
      generalize l.getD k 0 = old at hcell
      have ek : ((k + 1 : Nat) : Int) - 1 = (k : Int) := by omega
      rw [ek]
      go_wp2_with fail
      have hst := long_step (B := 65536) (d := d) (n := n) (j := k) (by omega) (by omega)
      rw [← hr.out, ← HD.out] at hst
      obtain ⟨hst1, hst2⟩ := hst
      go_roundw
      case rel =>
        refine ⟨k, (r * 65536 + a) % d, l.set k ((r * 65536 + a) / d), by simp, rfl, by omega, Nat.mod_lt _ hd0, hid hst2, hid (by rw [List.length_set]; exact hll.out), ?_, hid ?_, hb.setCell (Nat.le_refl _) _⟩
        · have := BlkN.put hB k ((r * 65536 + a) / d)
          simpa using this
        · intro j h1 h2
          rw [List.length_set] at h2
          rw [List.getD_eq_getElem?_getD, List.getElem?_set]
          rcases Nat.eq_or_lt_of_le h1 with rfl | h3
          · rw [if_pos rfl, if_pos h2]; exact hst1
          · rw [if_neg (by omega), ← List.getD_eq_getElem?_getD]; exact hq.out j h3 h2
      case measure => simp [intOf]
end Go.Proofs.YtdhgdachchhflaaGreatDoor
namespace Go.Proofs.YtdhgdachchhflaaGreatDoor
open Go.RowKit Go.Dig
set_option maxRecDepth 100000
/-- One more digit of a sum. -/
theorem add_step {B : Nat} {ds : List Nat} {m n c i x y : Nat} (hl : ds.length = i) (h : val B ds + c * B ^ i = m % B ^ i + n % B ^ i) (hx : x = m / B ^ i % B) (hy : y = n / B ^ i % B) :
    val B (ds ++ [(c + x + y) % B]) + (c + x + y) / B * B ^ (i + 1) = m % B ^ (i + 1) + n % B ^ (i + 1) := by
  subst hl
  have e1 : m % B ^ (ds.length + 1) = m % B ^ ds.length + B ^ ds.length * x := by rw [hx, Nat.mod_pow_succ]
  have e2 : n % B ^ (ds.length + 1) = n % B ^ ds.length + B ^ ds.length * y := by rw [hy, Nat.mod_pow_succ]
  rw [val_append, e1, e2]
  show val B ds + B ^ ds.length * ((c + x + y) % B + B * 0) + _ = _
  have e3 := Nat.div_add_mod (c + x + y) B
  have e4 : B ^ ds.length * (c + x + y) = B ^ ds.length * (B * ((c + x + y) / B)) + B ^ ds.length * ((c + x + y) % B) := by rw [← Nat.mul_add, e3]
  have e5 : (c + x + y) / B * B ^ (ds.length + 1) = B ^ ds.length * (B * ((c + x + y) / B)) := by
    rw [Nat.pow_succ, Nat.mul_comm ((c + x + y) / B), Nat.mul_assoc]
  rw [Nat.mul_add, Nat.mul_add, Nat.mul_comm (B ^ ds.length) c] at e4
  rw [e5]
  simp only [Nat.mul_zero, Nat.add_zero]
  omega
theorem digit_zero {b n i : Nat} (hb : 2 ≤ b) (h : (dg b n).length ≤ i) : 0 = n / b ^ i % b := by
  rw [← dg_getD hb, List.getD_eq_getElem?_getD, List.getElem?_eq_none h]; rfl
theorem mod_len {b n i : Nat} (hb : 2 ≤ b) (h : (dg b n).length ≤ i) : n % b ^ i = n := Nat.mod_eq_of_lt (Nat.lt_of_lt_of_le (lt_pow_dg_length hb n) (Nat.pow_le_pow_right (by omega) h))
set_option maxHeartbeats 1000000 in
theorem add_any (va vb : Value) (m n : Nat) (w : World) (hma : Nt w va m) (hmb : Nt w vb n) (hla : (dg 65536 m).length ≤ 100000) (hlb : (dg 65536 n).length ≤ 100000) :
    Calls Tryz.prog 60 #[va, vb] w fun e w' => ∃ v, e = .returned v ∧ Nt w' v (m + n) ∧ Below w.heap.size w w' := by
  obtain ⟨a, cap, rfl, h1, h2, h3⟩ := hma
  obtain ⟨a2, cap2, rfl, h12, h22, h32⟩ := hmb
  have HA := hid h3
  have HB := hid h32
  clear h3 h32
  go_enter Tryz.func60, Tryz.ntmps60
  go_wp2_with fail
  go_loopw [6, 5, 7] (fun x v y wr => ∃ (c i : Nat) (ds : List Nat), x = .int .i64 c ∧ y = .int .i64 i ∧ c ≤ 1 ∧ (i ≤ (dg 65536 m).length ∨ i ≤ (dg 65536 n).length) ∧ wr.ownsRow w.heap.size 3 1 v ds.length (cs .i64 ds) ∧ Hid (ds.length = i) ∧ Hid (∀ d ∈ ds, d < 65536) ∧
    Hid (val 65536 ds + c * 65536 ^ i = m % 65536 ^ i + n % 65536 ^ i) ∧ Below w.heap.size w wr) (fun _ _ y _ => (dg 65536 m).length + (dg 65536 n).length - (intOf y).toNat)
  case atStart => exact ⟨0, 0, [], rfl, rfl, by omega, .inl (Nat.zero_le _), own_empty w 3 (Nat.le_refl _), hid rfl, hid (by simp), hid (by simp [val, Nat.mod_one]), (Below.refl _ _).alloc (Nat.le_refl _) _⟩
  case round =>
    obtain ⟨c, i, ds, rfl, rfl, hc, hi, hown, hl, hds, hv, hb⟩ := hrel
    have hbs := hb.size
    have hlen : ds.length ≤ 100000 := by have := hl.out; omega
    have hi2 : i ≤ 100000 := by omega
    rcases Nat.lt_or_ge i (dg 65536 m).length with hia | hia
    · rcases Nat.lt_or_ge i (dg 65536 n).length with hib | hib
      · clear hi
        have hka : i < (dg 65536 m).length := by omega
        obtain ⟨b, off, rfl, _, hb3⟩ := HA.out (by omega)
        have hk := hb3 i hka
        clear hb3
        have hx := (hb.cell (World.block_lt_of_cell? w _ hk)).trans hk
        clear hk
        have hxd : (dg 65536 m).getD i 0 = m / 65536 ^ i % 65536 := dg_getD (by omega) m i
        generalize (dg 65536 m).getD i 0 = x at hx hxd
        have hx1 : x < 65536 := by rw [hxd]; exact Nat.mod_lt _ (by omega)
        have HX := hid hxd
        clear hxd
        have hkb : i < (dg 65536 n).length := by omega
        obtain ⟨b4, off4, rfl, _, hb4⟩ := HB.out (by omega)
        have hk4 := hb4 i hkb
        clear hb4
        have hy := (hb.cell (World.block_lt_of_cell? w _ hk4)).trans hk4
        clear hk4
        have hyd : (dg 65536 n).getD i 0 = n / 65536 ^ i % 65536 := dg_getD (by omega) n i
        generalize (dg 65536 n).getD i 0 = y at hy hyd
        have hy1 : y < 65536 := by rw [hyd]; exact Nat.mod_lt _ (by omega)
        have HY := hid hyd
        clear hyd
        have HV := hid (add_step hl.out hv.out HX.out HY.out)
        clear hv
        go_wp2_with (at_builtin; refine app1 rfl _ _ 32 3 rfl .i64 8 Tryz.underlying32 info3 (by decide) w.heap.size w _ ds _ ((c + x + y) % 65536) (by simp) rfl rfl hown hb (by omega) (by omega) ?_; intro v2 w2 hown2 hb2 _)
        go_roundw
        case rel => exact ⟨(c + x + y) / 65536, i + 1, ds ++ [(c + x + y) % 65536], by simp, by go_num, by omega, by omega, hown2, hid (by simp; exact hl.out), hid (by intro d hd; rcases List.mem_append.1 hd with h | h; exact hds.out d h; simp at h; omega), hid (by simpa using HV.out), hb2⟩
        case measure => simp [intOf]; omega
      · clear hi
        have hka : i < (dg 65536 m).length := by omega
        obtain ⟨b, off, rfl, _, hb3⟩ := HA.out (by omega)
        have hk := hb3 i hka
        clear hb3
        have hx := (hb.cell (World.block_lt_of_cell? w _ hk)).trans hk
        clear hk
        have hxd : (dg 65536 m).getD i 0 = m / 65536 ^ i % 65536 := dg_getD (by omega) m i
        generalize (dg 65536 m).getD i 0 = x at hx hxd
        have hx1 : x < 65536 := by rw [hxd]; exact Nat.mod_lt _ (by omega)
        have HX := hid hxd
        clear hxd
        have hkb : ¬ i < (dg 65536 n).length := by omega
        have HY := hid (digit_zero (b := 65536) (n := n) (i := i) (by omega) (by omega))
        have HV := hid (add_step hl.out hv.out HX.out HY.out)
        clear hv
        go_wp2_with (at_builtin; refine app1 rfl _ _ 32 3 rfl .i64 8 Tryz.underlying32 info3 (by decide) w.heap.size w _ ds _ ((c + x) % 65536) (by simp) rfl rfl hown hb (by omega) (by omega) ?_; intro v2 w2 hown2 hb2 _)
        go_roundw
        case rel => exact ⟨(c + x) / 65536, i + 1, ds ++ [(c + x) % 65536], by simp, by go_num, by omega, by omega, hown2, hid (by simp; exact hl.out), hid (by intro d hd; rcases List.mem_append.1 hd with h | h; exact hds.out d h; simp at h; omega), hid (by simpa using HV.out), hb2⟩
        case measure => simp [intOf]; omega
    · rcases Nat.lt_or_ge i (dg 65536 n).length with hib | hib
      · clear hi
        have hka : ¬ i < (dg 65536 m).length := by omega
        have HX := hid (digit_zero (b := 65536) (n := m) (i := i) (by omega) (by omega))
        have hkb : i < (dg 65536 n).length := by omega
        obtain ⟨b4, off4, rfl, _, hb4⟩ := HB.out (by omega)
        have hk4 := hb4 i hkb
        clear hb4
        have hy := (hb.cell (World.block_lt_of_cell? w _ hk4)).trans hk4
        clear hk4
        have hyd : (dg 65536 n).getD i 0 = n / 65536 ^ i % 65536 := dg_getD (by omega) n i
        generalize (dg 65536 n).getD i 0 = y at hy hyd
        have hy1 : y < 65536 := by rw [hyd]; exact Nat.mod_lt _ (by omega)
        have HY := hid hyd
        clear hyd
        have HV := hid (add_step hl.out hv.out HX.out HY.out)
        clear hv
        go_wp2_with (at_builtin; refine app1 rfl _ _ 32 3 rfl .i64 8 Tryz.underlying32 info3 (by decide) w.heap.size w _ ds _ ((c + y) % 65536) (by simp) rfl rfl hown hb (by omega) (by omega) ?_; intro v2 w2 hown2 hb2 _)
        go_roundw
        case rel => exact ⟨(c + y) / 65536, i + 1, ds ++ [(c + y) % 65536], by simp, by go_num, by omega, by omega, hown2, hid (by simp; exact hl.out), hid (by intro d hd; rcases List.mem_append.1 hd with h | h; exact hds.out d h; simp at h; omega), hid (by simpa using HV.out), hb2⟩
        case measure => simp [intOf]; omega
      · have hka : ¬ i < (dg 65536 m).length := by omega
        have hkb : ¬ i < (dg 65536 n).length := by omega
        go_wp2_with (at_builtin; refine app1 rfl _ _ 32 3 rfl .i64 8 Tryz.underlying32 info3 (by decide) w.heap.size w u5 ds _ c (by simp) rfl rfl hown hb (by omega) (by omega) ?_; intro v2 w2 hown2 hb2 _)
        refine (trim_any _ _ _ (own_rd hown2)).mono ?_
        rintro e w' ⟨v', rfl, hv', rfl⟩
        go_wp2_with fail
        go_ret
        refine ⟨_, rfl, ?_, hb2⟩
        have e1 : ∀ d ∈ ds ++ [c], d < 65536 := by intro d hd; rcases List.mem_append.1 hd with h | h; exact hds.out d h; simp at h; omega
        have e2 : val 65536 (ds ++ [c]) = m + n := by
          rw [val_append, hl.out]
          have := hv.out
          rw [mod_len (by omega) hia, mod_len (by omega) hib, Nat.mul_comm c] at this
          simpa [val] using this
        rw [trim_eq (by omega) e1, e2] at hv'
        exact hv'
end Go.Proofs.YtdhgdachchhflaaGreatDoor
namespace Go.Proofs.YtdhgdachchhflaaGreatDoor
open Go.RowKit Go.Dig
set_option maxRecDepth 100000
/-- One more digit of a difference. -/
theorem sub_step {B : Nat} {ds : List Nat} {m n c i x y z c2 : Nat} (hl : ds.length = i) (h : val B ds + n % B ^ i = m % B ^ i + c * B ^ i) (hx : x = m / B ^ i % B) (hy : y = n / B ^ i % B) (hz : z + y + c = x + c2 * B) :
    val B (ds ++ [z]) + n % B ^ (i + 1) = m % B ^ (i + 1) + c2 * B ^ (i + 1) := by
  subst hl
  have e1 : m % B ^ (ds.length + 1) = m % B ^ ds.length + B ^ ds.length * x := by rw [hx, Nat.mod_pow_succ]
  have e2 : n % B ^ (ds.length + 1) = n % B ^ ds.length + B ^ ds.length * y := by rw [hy, Nat.mod_pow_succ]
  rw [val_append, e1, e2]
  show val B ds + B ^ ds.length * (z + B * 0) + _ = _
  have e3 : B ^ ds.length * (z + y + c) = B ^ ds.length * (x + c2 * B) := by rw [hz]
  have e4 : c2 * B ^ (ds.length + 1) = B ^ ds.length * (c2 * B) := by
    rw [Nat.pow_succ, Nat.mul_left_comm]
  rw [Nat.mul_add, Nat.mul_add, Nat.mul_add, Nat.mul_comm (B ^ ds.length) c] at e3
  rw [e4]
  simp only [Nat.mul_zero, Nat.add_zero]
  omega
set_option maxHeartbeats 1000000 in
theorem sub_any (va vb : Value) (m n : Nat) (w : World) (hma : Nt w va m) (hmb : Nt w vb n) (hla : (dg 65536 m).length ≤ 100000) (hnm : n ≤ m) :
    Calls Tryz.prog 59 #[va, vb] w fun e w' => ∃ v, e = .returned v ∧ Nt w' v (m - n) ∧ Below w.heap.size w w' := by
  have hlb : (dg 65536 n).length ≤ (dg 65536 m).length := dg_length_mono (by omega) hnm
  have HNM := hid hnm
  clear hnm
  obtain ⟨a, cap, rfl, h1, h2, h3⟩ := hma
  obtain ⟨a2, cap2, rfl, h12, h22, h32⟩ := hmb
  have HA := hid h3
  have HB := hid h32
  clear h3 h32
  go_enter Tryz.func59, Tryz.ntmps59
  go_wp2_with fail
  go_loopw [6, 5, 12] (fun x v y wr => ∃ (c i : Nat) (ds : List Nat), x = .int .i64 c ∧ y = .int .i64 i ∧ c ≤ 1 ∧ i ≤ (dg 65536 m).length ∧ wr.ownsRow w.heap.size 3 1 v ds.length (cs .i64 ds) ∧ Hid (ds.length = i) ∧ Hid (∀ d ∈ ds, d < 65536) ∧
    Hid (val 65536 ds + n % 65536 ^ i = m % 65536 ^ i + c * 65536 ^ i) ∧ Below w.heap.size w wr) (fun _ _ y _ => (dg 65536 m).length - (intOf y).toNat)
  case atStart => exact ⟨0, 0, [], rfl, rfl, by omega, Nat.zero_le _, own_empty w 3 (Nat.le_refl _), hid rfl, hid (by simp), hid (by simp [val, Nat.mod_one]), (Below.refl _ _).alloc (Nat.le_refl _) _⟩
  case round =>
    obtain ⟨c, i, ds, rfl, rfl, hc, hi, hown, hl, hds, hv, hb⟩ := hrel
    have hbs := hb.size
    have hlen : ds.length ≤ 100000 := by have := hl.out; omega
    have hi2 : i ≤ 100000 := by omega
    rcases Nat.lt_or_ge i (dg 65536 m).length with hka | hia
    · obtain ⟨b, off, rfl, _, hb3⟩ := HA.out (by omega)
      have hk := hb3 i hka
      clear hb3
      have hx := (hb.cell (World.block_lt_of_cell? w _ hk)).trans hk
      clear hk
      have hxd : (dg 65536 m).getD i 0 = m / 65536 ^ i % 65536 := dg_getD (by omega) m i
      generalize (dg 65536 m).getD i 0 = x at hx hxd
      have hx1 : x < 65536 := by rw [hxd]; exact Nat.mod_lt _ (by omega)
      have HX := hid hxd
      clear hxd
      rcases Nat.lt_or_ge i (dg 65536 n).length with hkb | hib
      · obtain ⟨b4, off4, rfl, _, hb4⟩ := HB.out (by omega)
        have hk4 := hb4 i hkb
        clear hb4
        have hy := (hb.cell (World.block_lt_of_cell? w _ hk4)).trans hk4
        clear hk4
        have hyd : (dg 65536 n).getD i 0 = n / 65536 ^ i % 65536 := dg_getD (by omega) n i
        generalize (dg 65536 n).getD i 0 = y at hy hyd
        have hy1 : y < 65536 := by rw [hyd]; exact Nat.mod_lt _ (by omega)
        have HY := hid hyd
        clear hyd
        rcases Nat.lt_or_ge x (c + y) with hneg | hneg
        · have HV := hid (sub_step (z := x + 65536 - (c + y)) (c2 := 1) hl.out hv.out HX.out HY.out (by omega))
          clear hv
          go_wp2_with (at_builtin; refine app1 rfl _ _ 32 3 rfl .i64 8 Tryz.underlying32 info3 (by decide) w.heap.size w u5 ds _ (x + 65536 - (c + y)) (by omega) rfl rfl hown hb (by omega) (by omega) ?_; intro v2 w2 hown2 hb2 _)
          go_roundw
          case rel => exact ⟨1, i + 1, ds ++ [x + 65536 - (c + y)], by simp, by go_num, by omega, by omega, hown2, hid (by simp; exact hl.out), hid (by intro d hd; rcases List.mem_append.1 hd with h | h; exact hds.out d h; simp at h; omega), hid HV.out, hb2⟩
          case measure => simp [intOf]; omega
        · have HV := hid (sub_step (z := x - (c + y)) (c2 := 0) hl.out hv.out HX.out HY.out (by omega))
          clear hv
          go_wp2_with (at_builtin; refine app1 rfl _ _ 32 3 rfl .i64 8 Tryz.underlying32 info3 (by decide) w.heap.size w u5 ds _ (x - (c + y)) (by omega) rfl rfl hown hb (by omega) (by omega) ?_; intro v2 w2 hown2 hb2 _)
          go_roundw
          case rel => exact ⟨0, i + 1, ds ++ [x - (c + y)], by simp, by go_num, by omega, by omega, hown2, hid (by simp; exact hl.out), hid (by intro d hd; rcases List.mem_append.1 hd with h | h; exact hds.out d h; simp at h; omega), hid HV.out, hb2⟩
          case measure => simp [intOf]; omega
      · have hkb : ¬ i < (dg 65536 n).length := by omega
        have HY := hid (digit_zero (b := 65536) (n := n) (i := i) (by omega) (by omega))
        rcases Nat.lt_or_ge x (c) with hneg | hneg
        · have HV := hid (sub_step (z := x + 65536 - (c)) (c2 := 1) hl.out hv.out HX.out HY.out (by omega))
          clear hv
          go_wp2_with (at_builtin; refine app1 rfl _ _ 32 3 rfl .i64 8 Tryz.underlying32 info3 (by decide) w.heap.size w u5 ds _ (x + 65536 - (c)) (by omega) rfl rfl hown hb (by omega) (by omega) ?_; intro v2 w2 hown2 hb2 _)
          go_roundw
          case rel => exact ⟨1, i + 1, ds ++ [x + 65536 - (c)], by simp, by go_num, by omega, by omega, hown2, hid (by simp; exact hl.out), hid (by intro d hd; rcases List.mem_append.1 hd with h | h; exact hds.out d h; simp at h; omega), hid HV.out, hb2⟩
          case measure => simp [intOf]; omega
        · have HV := hid (sub_step (z := x - (c)) (c2 := 0) hl.out hv.out HX.out HY.out (by omega))
          clear hv
          go_wp2_with (at_builtin; refine app1 rfl _ _ 32 3 rfl .i64 8 Tryz.underlying32 info3 (by decide) w.heap.size w u5 ds _ (x - (c)) (by omega) rfl rfl hown hb (by omega) (by omega) ?_; intro v2 w2 hown2 hb2 _)
          go_roundw
          case rel => exact ⟨0, i + 1, ds ++ [x - (c)], by simp, by go_num, by omega, by omega, hown2, hid (by simp; exact hl.out), hid (by intro d hd; rcases List.mem_append.1 hd with h | h; exact hds.out d h; simp at h; omega), hid HV.out, hb2⟩
          case measure => simp [intOf]; omega
    · obtain rfl : i = (dg 65536 m).length := by omega
      go_wp2_with fail
      refine (trim_any _ _ _ (own_rd hown)).mono ?_
      rintro e w' ⟨v', rfl, hv', rfl⟩
      go_wp2_with fail
      go_ret
      refine ⟨_, rfl, ?_, hb⟩
      have e2 : val 65536 ds = m - n := by
        have h1 := hv.out
        have h2 := HNM.out
        rw [mod_len (by omega) (Nat.le_refl _), mod_len (by omega) hlb] at h1
        have h3 := val_lt (b := 65536) (by omega) hds.out
        rw [hl.out] at h3
        rcases (by omega : c = 0 ∨ c = 1) with rfl | rfl
        · omega
        · omega
      rw [trim_eq (by omega) hds.out, e2] at hv'
      exact hv'
end Go.Proofs.YtdhgdachchhflaaGreatDoor

namespace Go.Proofs.YtdhgdachchhflaaGreatDoor
open Go.RowKit Go.Dig
set_option maxRecDepth 100000
theorem mul_step {B : Nat} {l : List Nat} {i k q x y old R n : Nat} (hlt : i + k < l.length) (ho : l.getD (i + k) 0 = old) (hy : y = n / B ^ k % B) (h : val B l + q * B ^ (i + k) = R + B ^ i * x * (n % B ^ k)) :
    val B (l.set (i + k) ((q + (old + x * y)) % B)) + (q + (old + x * y)) / B * B ^ (i + (k + 1)) = R + B ^ i * x * (n % B ^ (k + 1)) := by
  have hs := val_set B l (i + k) ((q + (old + x * y)) % B) hlt
  rw [ho] at hs
  have e2 : n % B ^ (k + 1) = n % B ^ k + B ^ k * y := by rw [hy, Nat.mod_pow_succ]
  have e3 := Nat.div_add_mod (q + (old + x * y)) B
  have e4 : (q + (old + x * y)) * B ^ (i + k) = (q + (old + x * y)) / B * B ^ (i + (k + 1)) + (q + (old + x * y)) % B * B ^ (i + k) := by
    have : (B * ((q + (old + x * y)) / B) + (q + (old + x * y)) % B) * B ^ (i + k) = (q + (old + x * y)) * B ^ (i + k) := by rw [e3]
    rw [Nat.add_mul] at this
    rw [← this, ← Nat.add_assoc i k 1, Nat.pow_succ, Nat.mul_comm B, Nat.mul_assoc, Nat.mul_comm B]
  have e5 : B ^ i * x * (B ^ k * y) = x * y * B ^ (i + k) := by
    rw [Nat.pow_add, Nat.mul_assoc, Nat.mul_left_comm x, ← Nat.mul_assoc, Nat.mul_comm (B ^ i * B ^ k)]
  rw [e2, Nat.mul_add, e5]
  rw [Nat.add_mul, Nat.add_mul] at e4
  omega
theorem mul_end {B : Nat} {l : List Nat} {i q x m n L : Nat} (hlt : i + L < l.length) (ho : l.getD (i + L) 0 = 0) (hx : x = m / B ^ i % B) (h : val B l + q * B ^ (i + L) = m % B ^ i * n + B ^ i * x * n) :
    val B (l.set (i + L) q) = m % B ^ (i + 1) * n := by
  have hs := val_set B l (i + L) q hlt
  rw [ho, Nat.zero_mul, Nat.add_zero] at hs
  rw [hs, h, Nat.mod_pow_succ, Nat.add_mul, ← hx]
theorem set_mem {l : List Nat} {B j d : Nat} (h : ∀ x ∈ l, x < B) (hd : d < B) : ∀ x ∈ l.set j d, x < B := by
  intro x hx
  rcases List.mem_or_eq_of_mem_set hx with h1 | h1
  · exact h x h1
  · omega
theorem set_far {l : List Nat} {j d i : Nat} (hne : j ≠ i) : (l.set j d).getD i 0 = l.getD i 0 := by
  rw [List.getD_eq_getElem?_getD, List.getElem?_set, if_neg hne, ← List.getD_eq_getElem?_getD]
end Go.Proofs.YtdhgdachchhflaaGreatDoor
namespace Go.Proofs.YtdhgdachchhflaaGreatDoor
open Go.RowKit Go.Dig
set_option maxRecDepth 100000
theorem addvv_step {B : Nat} {l xs ys : List Nat} {i c x y : Nat} (hx : xs.getD i 0 = x) (hy : ys.getD i 0 = y) (hxl : i < xs.length) (hyl : i < ys.length) (hl : i < l.length)
    (h : val B (l.take i) + c * B ^ i = val B (xs.take i) + val B (ys.take i)) :
    val B ((l.set i ((x + y + c) % B)).take (i + 1)) + (x + y + c) / B * B ^ (i + 1) = val B (xs.take (i + 1)) + val B (ys.take (i + 1)) := by
  have e : ∀ (m : List Nat), i < m.length → val B (m.take (i + 1)) = val B (m.take i) + m.getD i 0 * B ^ i := by
    intro m hm
    rw [List.take_add_one, List.getElem?_eq_getElem hm, Option.toList_some, val_append, List.length_take, Nat.min_eq_left (by omega), List.getD_eq_getElem?_getD, List.getElem?_eq_getElem hm]
    simp [val, Nat.mul_comm]
  rw [e _ (by rw [List.length_set]; exact hl), e xs hxl, e ys hyl, hx, hy]
  have e1 : (l.set i ((x + y + c) % B)).take i = l.take i := by rw [List.take_set_of_le (by omega)]
  have e2 : (l.set i ((x + y + c) % B)).getD i 0 = (x + y + c) % B := by rw [List.getD_eq_getElem?_getD, List.getElem?_set_self hl]; rfl
  rw [e1, e2]
  have e3 : (x + y + c) * B ^ i = (x + y + c) % B * B ^ i + (x + y + c) / B * B ^ (i + 1) := by
    generalize x + y + c = t
    have := Nat.div_add_mod t B
    rw [Nat.pow_succ, Nat.mul_comm (B ^ i) B, ← Nat.mul_assoc, ← Nat.add_mul, Nat.add_comm (t % B), Nat.mul_comm (t / B), this]
  rw [Nat.add_mul, Nat.add_mul] at e3
  omega
set_option maxHeartbeats 1000000 in
theorem addVV_any (w0 w : World) (b cap : Nat) (vx vy : Value) (xs ys l : List Nat) (hb : Below w0.heap.size w0 w) (hB : w0.heap.size ≤ b) (hl : BlkN .u64 136 w b l) (hx : Rd .u64 w0 vx xs) (hy : Rd .u64 w0 vy ys)
    (hxy : xs.length = ys.length) (hlen : xs.length ≤ l.length) (hdx : ∀ d ∈ xs, d < 18446744073709551616) (hdy : ∀ d ∈ ys, d < 18446744073709551616) :
    Calls Tryz.prog 166 #[.slice (some ⟨b, 0, none⟩) xs.length cap, vx, vy] w fun e w' => ∃ l' c, e = .returned (.int .u64 (c : Nat)) ∧ l'.length = l.length ∧ c ≤ 1 ∧ val 18446744073709551616 (l'.take xs.length) + c * 18446744073709551616 ^ xs.length = val 18446744073709551616 xs + val 18446744073709551616 ys ∧
      (∀ j, xs.length ≤ j → l'.getD j 0 = l.getD j 0) ∧ (∀ j, j < xs.length → l'.getD j 0 < 18446744073709551616) ∧ BlkN .u64 136 w' b l' ∧ Below w0.heap.size w0 w' := by
  obtain ⟨ax, cx, rfl, hx1, hx2, hx3⟩ := hx
  obtain ⟨ay, cy, rfl, hy1, hy2, hy3⟩ := hy
  rw [← hxy] at hy1 hy3 ⊢
  have HX := hid hx3
  have HY := hid hy3
  have HXY := hid hxy
  clear hx3 hy3 hxy
  go_enter Tryz.func166, Tryz.ntmps166
  go_wp2_with fail
  go_loopw [6, 25] (fun p q wr => ∃ (c i : Nat) (m : List Nat), p = .int .u64 c ∧ q = .int .i64 i ∧ i ≤ xs.length ∧ c ≤ 1 ∧ Hid (m.length = l.length) ∧ BlkN .u64 136 wr b m ∧ Hid (val 18446744073709551616 (m.take i) + c * 18446744073709551616 ^ i = val 18446744073709551616 (xs.take i) + val 18446744073709551616 (ys.take i)) ∧
    Hid (∀ j, i ≤ j → m.getD j 0 = l.getD j 0) ∧ Hid (∀ j, j < i → m.getD j 0 < 18446744073709551616) ∧ Below w0.heap.size w0 wr) (fun _ q _ => xs.length - (intOf q).toNat)
  case atStart => exact ⟨0, 0, l, rfl, rfl, Nat.zero_le _, by omega, hid rfl, hl, hid (by simp [val]), hid (fun _ _ => rfl), hid (fun j h => absurd h (by omega)), hb⟩
  case round =>
    clear hl hb
    obtain ⟨c, i, m, rfl, rfl, hi, hc, hml, hBm, hv, hrest, hlow, hb⟩ := hrel
    rcases Nat.lt_or_ge i xs.length with hlt | hge
    · obtain ⟨bx, ox, rfl, hcx⟩ := HX.out (by omega)
      obtain ⟨bj, oy, rfl, hcy⟩ := HY.out (by omega)
      have hkx := hcx i hlt
      have hky := hcy i hlt
      clear hcx hcy
      have hx := (hb.cell (World.block_lt_of_cell? w0 _ hkx)).trans hkx
      have hy := (hb.cell (World.block_lt_of_cell? w0 _ hky)).trans hky
      clear hkx hky
      generalize hxe : xs.getD i 0 = x at hx
      generalize hye : ys.getD i 0 = y at hy
      have HXE := hid hxe
      have HYE := hid hye
      clear hxe hye
      have hcell := hBm.at (i := i) (by rw [hml.out]; omega)
      have hfr := Blk.frozen hBm i
      generalize m.getD i 0 = old at hcell
      go_wp2_with fail
      go_region_held (fun w' => w'.cell? ⟨bx, ox + i, none⟩ = some (.int .u64 x) ∧ w'.cell? ⟨bj, oy + i, none⟩ = some (.int .u64 y)) (go_keep)
        (first | (go_at_call 111; refine (bitsAdd_any x y c hc _).mono ?_; rintro e w' ⟨rfl, rfl⟩))
      have hb2 : Below w0.heap.size w0 wr.drew := hb.trans (below_drewN' (B := w0.heap.size) 1)
      have hBm2 : BlkN .u64 136 wr.drew b m := hBm.below (below_drewN' 1) hBm.lt
      have hcell2 : wr.drew.cell? ⟨b, i, none⟩ = some (.int .u64 old) := hcell
      have hfr2 : wr.drew.frozen? ⟨b, i, none⟩ = false := hfr
      have HV := hid (addvv_step (B := 18446744073709551616) (l := m) (xs := xs) (ys := ys) (i := i) (c := c) HXE.out HYE.out hlt (by rw [← HXY.out]; exact hlt) (by rw [hml.out]; omega) hv.out)
      clear hcell hfr hBm hb hx hy
      generalize wr.drew = wd at *
      have hc2 : (x + y + c) / 18446744073709551616 ≤ 1 := by
        have := HXE.out; have := HYE.out
        have h1 : x < 18446744073709551616 := by rw [← HXE.out]; exact getD_lt (by omega) hdx i
        have h2 : y < 18446744073709551616 := by rw [← HYE.out]; exact getD_lt (by omega) hdy i
        omega
      have hu1 : (x + y + c) % 18446744073709551616 < 18446744073709551616 := Nat.mod_lt _ (by omega)
      go_wp2_with fail
      go_roundw
      case rel =>
        refine ⟨(x + y + c) / 18446744073709551616, i + 1, m.set i ((x + y + c) % 18446744073709551616), by simp, by go_num, by omega, hc2, hid (by rw [List.length_set]; exact hml.out), ?_, hid HV.out, hid ?_, hid ?_, hb2.setCell hB _⟩
        · have := BlkN.put hBm2 i ((x + y + c) % 18446744073709551616)
          simpa using this
        · intro j hj; rw [set_far (by omega)]; exact hrest.out j (by omega)
        · intro j hj
          rcases Nat.lt_or_ge j i with h | h
          · rw [set_far (by omega)]; exact hlow.out j h
          · obtain rfl : j = i := by omega
            rw [List.getD_eq_getElem?_getD, List.getElem?_set_self (by rw [hml.out]; omega)]; exact hu1
      case measure => simp [intOf]; omega
    · obtain rfl : i = xs.length := by omega
      go_wp2_with fail
      go_ret
      refine ⟨m, c, rfl, hml.out, hc, ?_, hrest.out, hlow.out, hBm, hb⟩
      have := hv.out
      rw [List.take_length] at this
      have e : ys.take xs.length = ys := by rw [HXY.out, List.take_length]
      rw [e] at this
      exact this
end Go.Proofs.YtdhgdachchhflaaGreatDoor
namespace Go.Proofs.YtdhgdachchhflaaGreatDoor
open Go.RowKit Go.Dig
set_option maxRecDepth 100000
theorem subvv_step {B : Nat} {l xs ys : List Nat} {i c x y z c2 : Nat} (hx : xs.getD i 0 = x) (hy : ys.getD i 0 = y) (hxl : i < xs.length) (hyl : i < ys.length) (hl : i < l.length) (hz : z + y + c = x + c2 * B)
    (h : val B (l.take i) + val B (ys.take i) = val B (xs.take i) + c * B ^ i) :
    val B ((l.set i z).take (i + 1)) + val B (ys.take (i + 1)) = val B (xs.take (i + 1)) + c2 * B ^ (i + 1) := by
  have e : ∀ (m : List Nat), i < m.length → val B (m.take (i + 1)) = val B (m.take i) + m.getD i 0 * B ^ i := by
    intro m hm
    rw [List.take_add_one, List.getElem?_eq_getElem hm, Option.toList_some, val_append, List.length_take, Nat.min_eq_left (by omega), List.getD_eq_getElem?_getD, List.getElem?_eq_getElem hm]
    simp [val, Nat.mul_comm]
  rw [e _ (by rw [List.length_set]; exact hl), e xs hxl, e ys hyl, hx, hy]
  have e1 : (l.set i z).take i = l.take i := by rw [List.take_set_of_le (by omega)]
  have e2 : (l.set i z).getD i 0 = z := by rw [List.getD_eq_getElem?_getD, List.getElem?_set_self hl]; rfl
  rw [e1, e2]
  have e3 : (z + y + c) * B ^ i = (x + c2 * B) * B ^ i := by rw [hz]
  have e4 : c2 * B * B ^ i = c2 * B ^ (i + 1) := by rw [Nat.pow_succ, Nat.mul_assoc, Nat.mul_comm B]
  rw [Nat.add_mul, Nat.add_mul, Nat.add_mul, e4] at e3
  omega
theorem bitsSub_h (x y b : Nat) (hb : b ≤ 1) (w : World) : Calls Tryz.prog 168 #[.int .u64 x, .int .u64 y, .int .u64 b] w fun e w' => ∃ z c2 : Nat, e = .returned (.tuple #[.int .u64 z, .int .u64 c2]) ∧ Hid (z = (x + 18446744073709551616 - y - b) % 18446744073709551616) ∧ Hid (c2 = if x < y + b then 1 else 0) ∧ w' = w :=
  (bitsSub_any x y b hb w).mono fun _ _ ⟨e, h⟩ => ⟨_, _, e, rfl, rfl, h⟩
set_option maxHeartbeats 1000000 in
theorem subVV_any (w0 w : World) (b cap : Nat) (vx vy : Value) (xs ys l : List Nat) (hb : Below w0.heap.size w0 w) (hB : w0.heap.size ≤ b) (hl : BlkN .u64 136 w b l) (hx : Rd .u64 w0 vx xs) (hy : Rd .u64 w0 vy ys)
    (hxy : xs.length = ys.length) (hlen : xs.length ≤ l.length) (hdx : ∀ d ∈ xs, d < 18446744073709551616) (hdy : ∀ d ∈ ys, d < 18446744073709551616) :
    Calls Tryz.prog 167 #[.slice (some ⟨b, 0, none⟩) xs.length cap, vx, vy] w fun e w' => ∃ l' c, e = .returned (.int .u64 (c : Nat)) ∧ l'.length = l.length ∧ c ≤ 1 ∧ val 18446744073709551616 (l'.take xs.length) + val 18446744073709551616 ys = val 18446744073709551616 xs + c * 18446744073709551616 ^ xs.length ∧
      (∀ j, xs.length ≤ j → l'.getD j 0 = l.getD j 0) ∧ (∀ j, j < xs.length → l'.getD j 0 < 18446744073709551616) ∧ BlkN .u64 136 w' b l' ∧ Below w0.heap.size w0 w' := by
  obtain ⟨ax, cx, rfl, hx1, hx2, hx3⟩ := hx
  obtain ⟨ay, cy, rfl, hy1, hy2, hy3⟩ := hy
  rw [← hxy] at hy1 hy3 ⊢
  have HX := hid hx3
  have HY := hid hy3
  have HXY := hid hxy
  clear hx3 hy3 hxy
  go_enter Tryz.func167, Tryz.ntmps167
  go_wp2_with fail
  go_loopw [6, 25] (fun p q wr => ∃ (c i : Nat) (m : List Nat), p = .int .u64 c ∧ q = .int .i64 i ∧ i ≤ xs.length ∧ c ≤ 1 ∧ Hid (m.length = l.length) ∧ BlkN .u64 136 wr b m ∧ Hid (val 18446744073709551616 (m.take i) + val 18446744073709551616 (ys.take i) = val 18446744073709551616 (xs.take i) + c * 18446744073709551616 ^ i) ∧
    Hid (∀ j, i ≤ j → m.getD j 0 = l.getD j 0) ∧ Hid (∀ j, j < i → m.getD j 0 < 18446744073709551616) ∧ Below w0.heap.size w0 wr) (fun _ q _ => xs.length - (intOf q).toNat)
  case atStart => exact ⟨0, 0, l, rfl, rfl, Nat.zero_le _, by omega, hid rfl, hl, hid (by simp [val]), hid (fun _ _ => rfl), hid (fun j h => absurd h (by omega)), hb⟩
  case round =>
    clear hl hb
    obtain ⟨c, i, m, rfl, rfl, hi, hc, hml, hBm, hv, hrest, hlow, hb⟩ := hrel
    rcases Nat.lt_or_ge i xs.length with hlt | hge
    · obtain ⟨bx, ox, rfl, hcx⟩ := HX.out (by omega)
      obtain ⟨bj, oy, rfl, hcy⟩ := HY.out (by omega)
      have hkx := hcx i hlt
      have hky := hcy i hlt
      clear hcx hcy
      have hx := (hb.cell (World.block_lt_of_cell? w0 _ hkx)).trans hkx
      have hy := (hb.cell (World.block_lt_of_cell? w0 _ hky)).trans hky
      clear hkx hky
      generalize hxe : xs.getD i 0 = x at hx
      generalize hye : ys.getD i 0 = y at hy
      have HXE := hid hxe
      have HYE := hid hye
      clear hxe hye
      have hcell := hBm.at (i := i) (by rw [hml.out]; omega)
      have hfr := Blk.frozen hBm i
      generalize m.getD i 0 = old at hcell
      go_wp2_with fail
      go_region_held (fun w' => w'.cell? ⟨bx, ox + i, none⟩ = some (.int .u64 x) ∧ w'.cell? ⟨bj, oy + i, none⟩ = some (.int .u64 y)) (go_keep)
        (first | (go_at_call 168; refine (bitsSub_h x y c hc _).mono ?_; rintro e w' ⟨z, c2, rfl, HZ, HC, rfl⟩))
      have hb2 : Below w0.heap.size w0 wr.drew := hb.trans (below_drewN' (B := w0.heap.size) 1)
      have hBm2 : BlkN .u64 136 wr.drew b m := hBm.below (below_drewN' 1) hBm.lt
      have hcell2 : wr.drew.cell? ⟨b, i, none⟩ = some (.int .u64 old) := hcell
      have hfr2 : wr.drew.frozen? ⟨b, i, none⟩ = false := hfr
      clear hcell hfr hBm hb hx hy
      generalize wr.drew = wd at *
      have hc2 : c2 ≤ 1 := by rw [HC.out]; split <;> omega
      have hxw : x < 18446744073709551616 := by rw [← HXE.out]; exact getD_lt (by omega) hdx i
      have hyw : y < 18446744073709551616 := by rw [← HYE.out]; exact getD_lt (by omega) hdy i
      have hzz : z + y + c = x + c2 * 18446744073709551616 := by rw [HZ.out, HC.out]; split <;> omega
      have HV := hid (subvv_step (B := 18446744073709551616) (l := m) (xs := xs) (ys := ys) (i := i) (c := c) HXE.out HYE.out hlt (by rw [← HXY.out]; exact hlt) (by rw [hml.out]; omega) hzz hv.out)
      clear hzz
      have hu1 : z < 18446744073709551616 := by rw [HZ.out]; exact Nat.mod_lt _ (by omega)
      go_wp2_with fail
      go_roundw
      case rel =>
        refine ⟨c2, i + 1, m.set i (z), by simp, by go_num, by omega, hc2, hid (by rw [List.length_set]; exact hml.out), ?_, hid HV.out, hid ?_, hid ?_, hb2.setCell hB _⟩
        · have := BlkN.put hBm2 i (z)
          simpa using this
        · intro j hj; rw [set_far (by omega)]; exact hrest.out j (by omega)
        · intro j hj
          rcases Nat.lt_or_ge j i with h | h
          · rw [set_far (by omega)]; exact hlow.out j h
          · obtain rfl : j = i := by omega
            rw [List.getD_eq_getElem?_getD, List.getElem?_set_self (by rw [hml.out]; omega)]; exact hu1
      case measure => simp [intOf]; omega
    · obtain rfl : i = xs.length := by omega
      go_wp2_with fail
      go_ret
      refine ⟨m, c, rfl, hml.out, hc, ?_, hrest.out, hlow.out, hBm, hb⟩
      have := hv.out
      rw [List.take_length] at this
      have e : ys.take xs.length = ys := by rw [HXY.out, List.take_length]
      rw [e] at this
      exact this
end Go.Proofs.YtdhgdachchhflaaGreatDoor
namespace Go.Proofs.YtdhgdachchhflaaGreatDoor
open Go.RowKit Go.Dig
set_option maxRecDepth 100000
set_option maxHeartbeats 400000 in
theorem norm_any (v : Value) (ds : List Nat) (w : World) (h : Rt 136 .u64 w v ds) :
    Calls Tryz.prog 96 #[v] w fun e w' => ∃ v', e = .returned v' ∧ Rt 136 .u64 w' v' (trim ds) ∧ w' = w := by
  have HR := hid h
  obtain ⟨a, cap, rfl, h1, h2, h3⟩ := h
  have HA := hid h3
  clear h3
  go_enter Tryz.func96, Tryz.ntmps96
  go_wp2_with fail
  go_loop [3] (fun v => ∃ m : Nat, v = .int .i64 m ∧ m ≤ ds.length ∧ Hid (∀ i, m ≤ i → i < ds.length → ds.getD i 0 = 0)) (fun v => (intOf v).toNat)
  case atStart => exact ⟨ds.length, rfl, Nat.le_refl _, fun i h1 h2 => by omega⟩
  case round =>
    obtain ⟨m, rfl, hm, hz⟩ := hrel
    rcases Nat.eq_zero_or_pos m with h0 | h0
    · subst h0
      go_wp2_with fail
      go_ret
      have e := trim_take (Nat.zero_le _) hz.out (fun h => absurd h (by omega))
      exact ⟨_, rfl, by rw [e]; exact HR.out.take (Nat.zero_le _), rfl⟩
    · obtain ⟨k, rfl⟩ : ∃ k, m = k + 1 := ⟨m - 1, by omega⟩
      obtain ⟨b, off, rfl, _, hb⟩ := HA.out (by omega)
      have hk := hb k (by omega)
      clear hb
      by_cases hf : ds.getD k 0 = 0
      · rw [hf] at hk
        have HF := hid hf
        clear hf
        go_wp2_with fail
        go_round
        case rel =>
          refine ⟨k, by go_num, by omega, fun i h1 h2 => ?_⟩
          rcases Nat.eq_or_lt_of_le h1 with rfl | h3
          · exact HF.out
          · exact hz.out i h3 h2
        case measure => simp [intOf]
      · have hf' : (((ds.getD k 0 : Nat) : Int) == 0) = false := by simp; simpa using hf
        generalize hg : ds.getD k 0 = d at hk hf'
        have HF := hid hf
        have HG := hid hg
        clear hf hg
        go_wp2_with fail
        go_ret
        have e := trim_take hm hz.out (fun _ => HF.out)
        exact ⟨_, rfl, by rw [e]; exact HR.out.take hm, rfl⟩
end Go.Proofs.YtdhgdachchhflaaGreatDoor
namespace Go.Proofs.YtdhgdachchhflaaGreatDoor
open Go.RowKit Go.Dig
set_option maxRecDepth 100000
theorem dgw_lt (n : Nat) : ∀ d ∈ dg 18446744073709551616 n, d < 18446744073709551616 := dg_lt (by omega) n
set_option maxHeartbeats 400000 in
theorem addVV_wrap (p x y : Option Addr) (L1 L2 L3 c1 c2 c3 : Nat) (w : World) (R : Ending → World → Prop) (hR : Hid (∀ e w', R e w' → ∃ v, e = .returned v)) (h : Calls Tryz.prog 166 #[.slice p L1 c1, .slice x L2 c2, .slice y L3 c3] w R) :
    Calls Tryz.prog 149 #[.slice p L1 c1, .slice x L2 c2, .slice y L3 c3] w R := by
  go_enter Tryz.func149, Tryz.ntmps149
  go_wp2_with fail
  refine h.mono ?_
  intro e w' hq
  obtain ⟨v, rfl⟩ := hR.out e w' hq
  have HQ := hid hq
  clear hq
  go_wp2_with fail
  exact HQ
theorem addVV_w (w0 w : World) (b cap : Nat) (vx vy : Value) (xs ys l : List Nat) (hb : Below w0.heap.size w0 w) (hB : w0.heap.size ≤ b) (hl : BlkN .u64 136 w b l) (hx : Rd .u64 w0 vx xs) (hy : Rd .u64 w0 vy ys)
    (hxy : xs.length = ys.length) (hlen : xs.length ≤ l.length) (hdx : ∀ d ∈ xs, d < 18446744073709551616) (hdy : ∀ d ∈ ys, d < 18446744073709551616) :
    Calls Tryz.prog 149 #[.slice (some ⟨b, 0, none⟩) xs.length cap, vx, vy] w fun e w' => ∃ l' c, e = .returned (.int .u64 (c : Nat)) ∧ l'.length = l.length ∧ c ≤ 1 ∧ val 18446744073709551616 (l'.take xs.length) + c * 18446744073709551616 ^ xs.length = val 18446744073709551616 xs + val 18446744073709551616 ys ∧
      (∀ j, xs.length ≤ j → l'.getD j 0 = l.getD j 0) ∧ (∀ j, j < xs.length → l'.getD j 0 < 18446744073709551616) ∧ BlkN .u64 136 w' b l' ∧ Below w0.heap.size w0 w' := by
  obtain ⟨ax, cx, rfl⟩ := hx.shape
  obtain ⟨ay, cy, rfl⟩ := hy.shape
  exact addVV_wrap _ _ _ _ _ _ _ _ _ w _ (by rintro e w' ⟨l', c, h1, _⟩; exact ⟨_, h1⟩) (addVV_any w0 w b cap _ _ xs ys l hb hB hl hx hy hxy hlen hdx hdy)
set_option maxHeartbeats 400000 in
theorem subVV_wrap (p x y : Option Addr) (L1 L2 L3 c1 c2 c3 : Nat) (w : World) (R : Ending → World → Prop) (hR : Hid (∀ e w', R e w' → ∃ v, e = .returned v)) (h : Calls Tryz.prog 167 #[.slice p L1 c1, .slice x L2 c2, .slice y L3 c3] w R) :
    Calls Tryz.prog 150 #[.slice p L1 c1, .slice x L2 c2, .slice y L3 c3] w R := by
  go_enter Tryz.func150, Tryz.ntmps150
  go_wp2_with fail
  refine h.mono ?_
  intro e w' hq
  obtain ⟨v, rfl⟩ := hR.out e w' hq
  have HQ := hid hq
  clear hq
  go_wp2_with fail
  exact HQ
theorem subVV_w (w0 w : World) (b cap : Nat) (vx vy : Value) (xs ys l : List Nat) (hb : Below w0.heap.size w0 w) (hB : w0.heap.size ≤ b) (hl : BlkN .u64 136 w b l) (hx : Rd .u64 w0 vx xs) (hy : Rd .u64 w0 vy ys)
    (hxy : xs.length = ys.length) (hlen : xs.length ≤ l.length) (hdx : ∀ d ∈ xs, d < 18446744073709551616) (hdy : ∀ d ∈ ys, d < 18446744073709551616) :
    Calls Tryz.prog 150 #[.slice (some ⟨b, 0, none⟩) xs.length cap, vx, vy] w fun e w' => ∃ l' c, e = .returned (.int .u64 (c : Nat)) ∧ l'.length = l.length ∧ c ≤ 1 ∧ val 18446744073709551616 (l'.take xs.length) + val 18446744073709551616 ys = val 18446744073709551616 xs + c * 18446744073709551616 ^ xs.length ∧
      (∀ j, xs.length ≤ j → l'.getD j 0 = l.getD j 0) ∧ (∀ j, j < xs.length → l'.getD j 0 < 18446744073709551616) ∧ BlkN .u64 136 w' b l' ∧ Below w0.heap.size w0 w' := by
  obtain ⟨ax, cx, rfl⟩ := hx.shape
  obtain ⟨ay, cy, rfl⟩ := hy.shape
  exact subVV_wrap _ _ _ _ _ _ _ _ _ w _ (by rintro e w' ⟨l', c, h1, _⟩; exact ⟨_, h1⟩) (subVV_any w0 w b cap _ _ xs ys l hb hB hl hx hy hxy hlen hdx hdy)
set_option maxHeartbeats 1000000 in
theorem nadd_11 (vx vy : Value) (m n : Nat) (w : World) (hx : Nw w vx m) (hy : Nw w vy n) (hm : 0 < m) (hm1 : m < 18446744073709551616) (hn : 0 < n) (hn1 : n < 18446744073709551616) :
    Calls Tryz.prog 127 #[.slice none 0 0, vx, vy] w fun e w' => ∃ v, e = .returned v ∧ Nw w' v (m + n) ∧ Below w.heap.size w w' := by
  have HX := hid hx
  have HY := hid hy
  obtain ⟨ax, cx, ex⟩ := hx.shape
  obtain ⟨ay, cy, ey⟩ := hy.shape
  rw [dg_one hm hm1] at ex
  rw [dg_one hn hn1] at ey
  subst ex ey
  have hcx : 1 ≤ cx := by obtain ⟨_, c, e, h, _, _⟩ := hx; injection e with _ _ e3; rw [dg_one hm hm1] at h; rw [e3]; exact h
  have hcy : 1 ≤ cy := by obtain ⟨_, c, e, h, _, _⟩ := hy; injection e with _ _ e3; rw [dg_one hn hn1] at h; rw [e3]; exact h
  have hcx2 : cx ≤ 9223372036854775807 := by obtain ⟨_, c, e, _, h, _⟩ := hx; injection e with _ _ e3; rw [e3]; exact h
  have hcy2 : cy ≤ 9223372036854775807 := by obtain ⟨_, c, e, _, h, _⟩ := hy; injection e with _ _ e3; rw [e3]; exact h
  clear hx hy
  go_enter Tryz.func127, Tryz.ntmps127
  go_wp2_with fail
  refine (natMake_any 2 (by omega) (by omega) w).mono ?_
  rintro e w1 ⟨rfl, hw1⟩
  have hBz : BlkN .u64 136 w1 w.heap.size (List.replicate 6 0) := by rw [hw1]; exact blk_new w _ 136
  have hb1 : Below w.heap.size w w1 := by rw [hw1]; exact (Below.refl _ _).alloc (Nat.le_refl _) _
  clear hw1
  go_wp2_with fail
  have hX1 : Hid (Rd .u64 w (.slice ax 1 cx) [m]) := by have := HX.out.rd; rw [dg_one hm hm1] at this; exact this
  have hY1 : Hid (Rd .u64 w (.slice ay 1 cy) [n]) := by have := HY.out.rd; rw [dg_one hn hn1] at this; exact this
  go_region_held (fun w' => Hid (Below w.heap.size w w')) (first | with_reducible assumption | exact hb1.trans (below_drewN' 1))
    (first | (go_at_call 149; refine (addVV_w w _ w.heap.size _ _ _ [m] [n] (List.replicate 6 0) (hb1.trans (below_drewN' 1)) (Nat.le_refl _) (hBz.below (below_drewN' 1) hBz.lt) hX1.out hY1.out rfl (by simp) (by simpa using hm1) (by simpa using hn1)).mono ?_; rintro e w2 ⟨l2, c, rfl, hl2, hc, hv, hrest, hlow, hB2, hb2⟩; have HV := hid hv; have HRE := hid hrest; have HLO := hid hlow; have HL2 := hid hl2; have hb3 : Hid (Below w.heap.size w w2) := hb2; clear hv hrest hlow hl2))
  all_goals
    have e6 : (List.replicate 6 0).length = 6 := rfl
    rw [e6] at HL2
    have hBc := hB2.at (i := 1) (by rw [HL2.out]; omega)
    have hfr := Blk.frozen hB2 1
    have hz1 : l2.getD 1 0 = 0 := HRE.out 1 (Nat.le_refl _)
    rw [hz1] at hBc
    clear hz1
    have hB3 := hid hB2
    clear hB2
    go_wp2_with fail
    have hB4 : BlkN .u64 136 (w2.setCell ⟨w.heap.size, 1, none⟩ (.int .u64 (c : Int))) w.heap.size (l2.set 1 c) := hB3.out.put 1 c
    have hb4 : Below w.heap.size w (w2.setCell ⟨w.heap.size, 1, none⟩ (.int .u64 (c : Int))) := hb3.out.setCell (Nat.le_refl _) _
    generalize w2.setCell ⟨w.heap.size, 1, none⟩ (.int .u64 (c : Int)) = w3 at *
    have hsz : 6 = (l2.set 1 c).length := by rw [List.length_set]; exact HL2.out.symm
    have hRt : Rt 136 .u64 w3 (.slice (some ⟨w.heap.size, 0, none⟩) 6 6) (l2.set 1 c) := by
      have := hB4.rt (cap := 6) (by rw [← hsz]; omega) (by omega)
      rwa [← hsz] at this
    have hRt2 := hRt.take (m := 2) (by omega)
    refine (norm_any _ _ w3 hRt2).mono ?_
    rintro e w' ⟨v, rfl, hv, rfl⟩
    go_wp2_with fail
    go_ret
    refine ⟨_, rfl, ?_, hb4⟩
    have hv' : trim ((l2.set 1 c).take 2) = dg 18446744073709551616 (m + n) := by
      have hl : l2.getD 0 0 < 18446744073709551616 := HLO.out 0 (by simp)
      match l2, HL2.out, HV.out, hl with
      | a0 :: a1 :: l3, _, hval, hl =>
        have hl' : a0 < 18446744073709551616 := by simpa using hl
        have hval' : a0 + c * 18446744073709551616 = m + n := by simpa [val] using hval
        have e1 : ((a0 :: a1 :: l3).set 1 c).take 2 = [a0, c] := rfl
        rw [e1, trim_eq (b := 18446744073709551616) (by omega) (by intro d hd; simp at hd; omega)]
        congr 1
        simp [val]; omega
    rw [hv'] at hv
    exact hv
end Go.Proofs.YtdhgdachchhflaaGreatDoor
namespace Go.Proofs.YtdhgdachchhflaaGreatDoor
open Go.RowKit Go.Dig
set_option maxRecDepth 100000
set_option maxHeartbeats 400000 in
theorem nset_one (vx : Value) (m : Nat) (w : World) (hx : Nw w vx m) (hm : 0 < m) (hm1 : m < 18446744073709551616) :
    Calls Tryz.prog 69 #[.slice none 0 0, vx] w fun e w' => ∃ v, e = .returned v ∧ Nw w' v m ∧ Below w.heap.size w w' := by
  have HX := hid hx
  obtain ⟨ax, cx, ex, h1, h2, h3⟩ := hx
  rw [dg_one hm hm1] at ex h1 h3
  subst ex
  obtain ⟨b, off, rfl, _, hc⟩ := h3 (by simp)
  have hk := hc 0 (by simp)
  simp only [List.getD_cons_zero, Nat.add_zero] at hk
  clear h3 hc
  go_enter Tryz.func69, Tryz.ntmps69
  go_wp2_with fail
  refine (natMake_one w).mono ?_
  rintro e w1 ⟨rfl, hw1⟩
  have hBz : BlkN .u64 136 w1 w.heap.size [0] := by rw [hw1]; exact blk_new w _ 136
  have hb1 : Below w.heap.size w w1 := by rw [hw1]; exact (Below.refl _ _).alloc (Nat.le_refl _) _
  have hk1 := (hb1.cell (World.block_lt_of_cell? w _ hk)).trans hk
  clear hw1
  have hc0 := hBz.at (i := 0) (by simp)
  have hfr := Blk.frozen hBz 0
  have hcp : (Builtin.copy_ #[84, 84] 3 #[.slice (some ⟨w.heap.size, 0, none⟩) 1 1, .slice (some ⟨b, off, none⟩) 1 cx]).run Tryz.prog w1 = .ok (.int .i64 1) (w1.setCell ⟨w.heap.size, 0, none⟩ (.int .u64 (m : Int))) := by
    refine run_copy_cells (P := Tryz.prog) w1 84 84 3 136 w.heap.size 0 1 1 ⟨b, off, none⟩ 1 cx [.int .u64 (m : Int)] Tryz.underlying84 (by kernel_rfl) rfl ?_ ?_ ?_ ?_
    · intro j v hj
      match j, hj with
      | 0, hj =>
        simp at hj
        subst hj
        exact hk1
    · intro j hj
      simp at hj
      subst hj
      simpa using (by rw [hc0]; rfl : (w1.cell? ⟨w.heap.size, 0, none⟩).isSome = true)
    · intro j hj
      simp at hj
      subst hj
      exact hfr
    · intro v hv
      simp at hv
      subst hv
      rfl
  have hB4 : BlkN .u64 136 (w1.setCell ⟨w.heap.size, 0, none⟩ (.int .u64 (m : Int))) w.heap.size [m] := hBz.put 0 m
  have hb4 : Below w.heap.size w (w1.setCell ⟨w.heap.size, 0, none⟩ (.int .u64 (m : Int))) := hb1.setCell (Nat.le_refl _) _
  generalize w1.setCell ⟨w.heap.size, 0, none⟩ (.int .u64 (m : Int)) = w2 at *
  have HB4 := hid hB4
  clear hB4 hk1 hc0 hfr
  go_wp2_with fail
  go_ret
  refine ⟨_, rfl, ?_, hb4⟩
  show Rt 136 .u64 w2 (.slice (some ⟨w.heap.size, 0, none⟩) 1 1) (dg 18446744073709551616 m)
  rw [dg_one hm hm1]
  exact HB4.out.rt (cap := 1) (by simp) (by omega)
set_option maxHeartbeats 400000 in
theorem nadd_00 (w : World) (vx vy : Value) (hx : Nw w vx 0) (hy : Nw w vy 0) :
    Calls Tryz.prog 127 #[.slice none 0 0, vx, vy] w fun e w' => ∃ v, e = .returned v ∧ Nw w' v 0 ∧ Below w.heap.size w w' := by
  obtain ⟨ax, cx, rfl⟩ := hx.shape
  obtain ⟨ay, cy, rfl⟩ := hy.shape
  rw [dg_zero, List.length_nil]
  clear hx hy
  go_enter Tryz.func127, Tryz.ntmps127
  go_wp2_with fail
  go_ret
  exact ⟨_, rfl, by show Rt 136 .u64 w (.slice none 0 0) (dg 18446744073709551616 0); rw [dg_zero]; exact Rt.nil _ _ _, Below.refl _ _⟩
set_option maxHeartbeats 400000 in
theorem nadd_10 (w : World) (vx vy : Value) (m : Nat) (hx : Nw w vx m) (hy : Nw w vy 0) (hm : 0 < m) (hm1 : m < 18446744073709551616) :
    Calls Tryz.prog 127 #[.slice none 0 0, vx, vy] w fun e w' => ∃ v, e = .returned v ∧ Nw w' v m ∧ Below w.heap.size w w' := by
  have HX := hid hx
  obtain ⟨ax, cx, ex⟩ := hx.shape
  obtain ⟨ay, cy, ey⟩ := hy.shape
  rw [dg_one hm hm1] at ex
  rw [dg_zero] at ey
  subst ex ey
  clear hx hy
  go_enter Tryz.func127, Tryz.ntmps127
  go_wp2_with fail
  refine (nset_one _ m w HX.out hm hm1).mono ?_
  rintro e w1 ⟨v, rfl, hv, hb⟩
  go_wp2_with fail
  go_ret
  exact ⟨_, rfl, hv, hb⟩
set_option maxHeartbeats 400000 in
theorem nadd_01 (w : World) (vx vy : Value) (n : Nat) (hx : Nw w vx 0) (hy : Nw w vy n) (hn : 0 < n) (hn1 : n < 18446744073709551616) :
    Calls Tryz.prog 127 #[.slice none 0 0, vx, vy] w fun e w' => ∃ v, e = .returned v ∧ Nw w' v n ∧ Below w.heap.size w w' := by
  have HY := hid hy
  have HX := hid hx
  obtain ⟨ax, cx, ex⟩ := hx.shape
  obtain ⟨ay, cy, ey⟩ := hy.shape
  rw [dg_zero] at ex
  rw [dg_one hn hn1] at ey
  subst ex ey
  clear hx hy
  go_enter Tryz.func127, Tryz.ntmps127
  go_wp2_with fail
  refine (nadd_10 w _ _ n HY.out HX.out hn hn1).mono ?_
  rintro e w1 ⟨v, rfl, hv, hb⟩
  go_wp2_with fail
  go_ret
  exact ⟨_, rfl, hv, hb⟩
theorem nadd_small (w : World) (vx vy : Value) (m n : Nat) (hx : Nw w vx m) (hy : Nw w vy n) (hm1 : m < 18446744073709551616) (hn1 : n < 18446744073709551616) :
    Calls Tryz.prog 127 #[.slice none 0 0, vx, vy] w fun e w' => ∃ v, e = .returned v ∧ Nw w' v (m + n) ∧ Below w.heap.size w w' := by
  rcases Nat.eq_zero_or_pos m with h | h <;> rcases Nat.eq_zero_or_pos n with h' | h'
  · subst h h'; exact nadd_00 w vx vy hx hy
  · subst h; rw [Nat.zero_add]; exact nadd_01 w vx vy n hx hy h' hn1
  · subst h'; rw [Nat.add_zero]; exact nadd_10 w vx vy m hx hy h hm1
  · exact nadd_11 vx vy m n w hx hy h hm1 h' hn1
end Go.Proofs.YtdhgdachchhflaaGreatDoor
namespace Go.Proofs.YtdhgdachchhflaaGreatDoor
open Go.RowKit Go.Dig
set_option maxRecDepth 100000
set_option maxHeartbeats 1000000 in
theorem nsub_11 (vx vy : Value) (m n : Nat) (w : World) (hx : Nw w vx m) (hy : Nw w vy n) (hm : 0 < m) (hm1 : m < 18446744073709551616) (hn : 0 < n) (hn1 : n < 18446744073709551616) (hnm : n ≤ m) :
    Calls Tryz.prog 128 #[.slice none 0 0, vx, vy] w fun e w' => ∃ v, e = .returned v ∧ Nw w' v (m - n) ∧ Below w.heap.size w w' := by
  have HX := hid hx
  have HY := hid hy
  obtain ⟨ax, cx, ex⟩ := hx.shape
  obtain ⟨ay, cy, ey⟩ := hy.shape
  rw [dg_one hm hm1] at ex
  rw [dg_one hn hn1] at ey
  subst ex ey
  have hcx : 1 ≤ cx := by obtain ⟨_, c, e, h, _, _⟩ := hx; injection e with _ _ e3; rw [dg_one hm hm1] at h; rw [e3]; exact h
  have hcy : 1 ≤ cy := by obtain ⟨_, c, e, h, _, _⟩ := hy; injection e with _ _ e3; rw [dg_one hn hn1] at h; rw [e3]; exact h
  have hcx2 : cx ≤ 9223372036854775807 := by obtain ⟨_, c, e, _, h, _⟩ := hx; injection e with _ _ e3; rw [e3]; exact h
  have hcy2 : cy ≤ 9223372036854775807 := by obtain ⟨_, c, e, _, h, _⟩ := hy; injection e with _ _ e3; rw [e3]; exact h
  clear hx hy
  go_enter Tryz.func128, Tryz.ntmps128
  go_wp2_with fail
  refine (natMake_one w).mono ?_
  rintro e w1 ⟨rfl, hw1⟩
  have hBz : BlkN .u64 136 w1 w.heap.size ([0]) := by rw [hw1]; exact blk_new w _ 136
  have hb1 : Below w.heap.size w w1 := by rw [hw1]; exact (Below.refl _ _).alloc (Nat.le_refl _) _
  clear hw1
  go_wp2_with fail
  have hX1 : Hid (Rd .u64 w (.slice ax 1 cx) [m]) := by have := HX.out.rd; rw [dg_one hm hm1] at this; exact this
  have hY1 : Hid (Rd .u64 w (.slice ay 1 cy) [n]) := by have := HY.out.rd; rw [dg_one hn hn1] at this; exact this
  go_region_held (fun w' => Hid (Below w.heap.size w w')) (first | with_reducible assumption | exact hb1.trans (below_drewN' 1))
    (first | (go_at_call 150; refine (subVV_w w _ w.heap.size _ _ _ [m] [n] ([0]) (hb1.trans (below_drewN' 1)) (Nat.le_refl _) (hBz.below (below_drewN' 1) hBz.lt) hX1.out hY1.out rfl (by simp) (by simpa using hm1) (by simpa using hn1)).mono ?_; rintro e w2 ⟨l2, c, rfl, hl2, hc, hv, hrest, hlow, hB2, hb2⟩; have HV := hid hv; have HRE := hid hrest; have HLO := hid hlow; have HL2 := hid hl2; have hb3 : Hid (Below w.heap.size w w2) := hb2; clear hv hrest hlow hl2))
  all_goals
    have hval : l2.getD 0 0 = m - n ∧ c = 0 ∧ l2 = [m - n] := by
      have hl : l2.getD 0 0 < 18446744073709551616 := HLO.out 0 (by simp)
      match l2, HL2.out, HV.out, hl with
      | [a0], _, hval, hl =>
        have hl' : a0 < 18446744073709551616 := by simpa using hl
        have hval' : a0 + n = m + c * 18446744073709551616 := by simpa [val] using hval
        have : c = 0 := by omega
        subst this
        have e : a0 = m - n := by omega
        subst e
        exact ⟨rfl, rfl, rfl⟩
    obtain ⟨_, rfl, rfl⟩ := hval
    have hB3 := hid hB2
    clear hB2
    go_wp2_with fail
    have hRt : Rt 136 .u64 w2 (.slice (some ⟨w.heap.size, 0, none⟩) 1 1) [m - n] := hB3.out.rt (cap := 1) (by simp) (by omega)
    refine (norm_any _ _ w2 hRt).mono ?_
    rintro e w' ⟨v, rfl, hv, rfl⟩
    go_wp2_with fail
    go_ret
    refine ⟨_, rfl, ?_, hb3.out⟩
    rw [trim_eq (b := 18446744073709551616) (by omega) (by intro d hd; simp at hd; omega)] at hv
    have e : val 18446744073709551616 [m - n] = m - n := by simp [val]
    rw [e] at hv
    exact hv
set_option maxHeartbeats 400000 in
theorem nsub_00 (w : World) (vx vy : Value) (hx : Nw w vx 0) (hy : Nw w vy 0) :
    Calls Tryz.prog 128 #[.slice none 0 0, vx, vy] w fun e w' => ∃ v, e = .returned v ∧ Nw w' v 0 ∧ Below w.heap.size w w' := by
  obtain ⟨ax, cx, rfl⟩ := hx.shape
  obtain ⟨ay, cy, rfl⟩ := hy.shape
  rw [dg_zero, List.length_nil]
  clear hx hy
  go_enter Tryz.func128, Tryz.ntmps128
  go_wp2_with fail
  go_ret
  exact ⟨_, rfl, by show Rt 136 .u64 w (.slice none 0 0) (dg 18446744073709551616 0); rw [dg_zero]; exact Rt.nil _ _ _, Below.refl _ _⟩
set_option maxHeartbeats 400000 in
theorem nsub_10 (w : World) (vx vy : Value) (m : Nat) (hx : Nw w vx m) (hy : Nw w vy 0) (hm : 0 < m) (hm1 : m < 18446744073709551616) :
    Calls Tryz.prog 128 #[.slice none 0 0, vx, vy] w fun e w' => ∃ v, e = .returned v ∧ Nw w' v m ∧ Below w.heap.size w w' := by
  have HX := hid hx
  obtain ⟨ax, cx, ex⟩ := hx.shape
  obtain ⟨ay, cy, ey⟩ := hy.shape
  rw [dg_one hm hm1] at ex
  rw [dg_zero] at ey
  subst ex ey
  clear hx hy
  go_enter Tryz.func128, Tryz.ntmps128
  go_wp2_with fail
  refine (nset_one _ m w HX.out hm hm1).mono ?_
  rintro e w1 ⟨v, rfl, hv, hb⟩
  go_wp2_with fail
  go_ret
  exact ⟨_, rfl, hv, hb⟩
theorem nsub_small (w : World) (vx vy : Value) (m n : Nat) (hx : Nw w vx m) (hy : Nw w vy n) (hm1 : m < 18446744073709551616) (hnm : n ≤ m) :
    Calls Tryz.prog 128 #[.slice none 0 0, vx, vy] w fun e w' => ∃ v, e = .returned v ∧ Nw w' v (m - n) ∧ Below w.heap.size w w' := by
  rcases Nat.eq_zero_or_pos n with h' | h'
  · subst h'
    rw [Nat.sub_zero]
    rcases Nat.eq_zero_or_pos m with h | h
    · subst h; exact nsub_00 w vx vy hx hy
    · exact nsub_10 w vx vy m hx hy h hm1
  · exact nsub_11 vx vy m n w hx hy (by omega) hm1 h' (by omega) hnm
end Go.Proofs.YtdhgdachchhflaaGreatDoor
namespace Go.Proofs.YtdhgdachchhflaaGreatDoor
open Go.RowKit Go.Dig
set_option maxRecDepth 100000
set_option maxHeartbeats 400000 in
theorem ncmp_11 (vx vy : Value) (m n : Nat) (w : World) (hx : Nw w vx m) (hy : Nw w vy n) (hm : 0 < m) (hm1 : m < 18446744073709551616) (hn : 0 < n) (hn1 : n < 18446744073709551616) :
    Calls Tryz.prog 100 #[vx, vy] w fun e w' => e = .returned (.int .i64 (cmpI m n)) ∧ ∃ k, w' = w.drewN k := by
  obtain ⟨ax, cx, ex, h1, h2, h3⟩ := hx
  obtain ⟨ay, cy, ey, h4, h5, h6⟩ := hy
  rw [dg_one hm hm1] at ex h3
  rw [dg_one hn hn1] at ey h6
  subst ex ey
  obtain ⟨b, off, rfl, _, hc⟩ := h3 (by simp)
  have hk := hc 0 (by simp)
  obtain ⟨b', off', rfl, _, hc'⟩ := h6 (by simp)
  have hk' := hc' 0 (by simp)
  simp only [List.getD_cons_zero, Nat.add_zero] at hk hk'
  clear h3 hc h6 hc' h1 h2 h4 h5
  go_enter Tryz.func100, Tryz.ntmps100
  go_wp2_with fail
  go_loopw [7] (fun v wr => v = .int .i64 0 ∧ wr = w) (fun _ _ => 0)
  case atStart => exact ⟨rfl, rfl⟩
  case round =>
    obtain ⟨rfl, rfl⟩ := hrel
    rcases Nat.lt_trichotomy m n with h | h | h
    · have e : cmpI m n = -1 := by rw [cmpI, if_pos h]
      have E := hid e
      clear e
      go_wp2_with fail
      go_quiet (fail)
      go_wp2_with fail
      go_quiet (fail)
      go_wp2_with fail
      go_ret
      rw [E.out]
      exact ⟨rfl, _, by simp only [World.drewN_drewN]; rfl⟩
    · subst h
      have E : Hid (cmpI m m = 0) := by rw [cmpI, if_neg (by omega), if_pos rfl]; exact rfl
      go_wp2_with fail
      go_quiet (fail)
      go_wp2_with fail
      go_quiet (fail)
      go_wp2_with fail
      go_quiet (fail)
      go_wp2_with fail
      go_ret
      rw [E.out]
      exact ⟨rfl, _, by simp only [World.drewN_drewN]; rfl⟩
    · have hn2 : ¬ m < n := by omega
      have E : Hid (cmpI m n = 1) := by rw [cmpI, if_neg (by omega), if_neg (by omega)]; exact rfl
      go_wp2_with fail
      go_quiet (fail)
      go_wp2_with fail
      go_quiet (fail)
      go_wp2_with fail
      go_quiet (fail)
      go_wp2_with fail
      go_ret
      rw [E.out]
      exact ⟨rfl, _, by simp only [World.drewN_drewN]; rfl⟩
set_option maxHeartbeats 400000 in
theorem ncmp_len (vx vy : Value) (m n : Nat) (w : World) (hx : Nw w vx m) (hy : Nw w vy n) (hl : (dg 18446744073709551616 m).length ≠ (dg 18446744073709551616 n).length ∨ (dg 18446744073709551616 m).length = 0) :
    Calls Tryz.prog 100 #[vx, vy] w fun e w' => e = .returned (.int .i64 (if (dg 18446744073709551616 m).length < (dg 18446744073709551616 n).length then -1 else if (dg 18446744073709551616 n).length < (dg 18446744073709551616 m).length then 1 else 0)) ∧ w' = w := by
  obtain ⟨ax, cx, rfl⟩ := hx.shape
  obtain ⟨ay, cy, rfl⟩ := hy.shape
  clear hx hy
  generalize (dg 18446744073709551616 m).length = p at *
  generalize (dg 18446744073709551616 n).length = q at *
  rcases Nat.lt_trichotomy p q with h | h | h
  · have hne : p ≠ q := by omega
    rw [if_pos h]
    go_enter Tryz.func100, Tryz.ntmps100
    go_wp2_with fail
    go_ret
    exact ⟨rfl, rfl⟩
  · subst h
    obtain rfl : p = 0 := by omega
    rw [if_neg (by omega), if_neg (by omega)]
    go_enter Tryz.func100, Tryz.ntmps100
    go_wp2_with fail
    go_ret
    exact ⟨rfl, rfl⟩
  · have hne : p ≠ q := by omega
    rw [if_neg (by omega), if_pos h]
    go_enter Tryz.func100, Tryz.ntmps100
    go_wp2_with fail
    go_ret
    exact ⟨rfl, rfl⟩
theorem ncmp_small (vx vy : Value) (m n : Nat) (w : World) (hx : Nw w vx m) (hy : Nw w vy n) (hm1 : m < 18446744073709551616) (hn1 : n < 18446744073709551616) :
    Calls Tryz.prog 100 #[vx, vy] w fun e w' => e = .returned (.int .i64 (cmpI m n)) ∧ ∃ k, w' = w.drewN k := by
  rcases Nat.eq_zero_or_pos m with h | h <;> rcases Nat.eq_zero_or_pos n with h' | h'
  · subst h h'
    refine (ncmp_len vx vy 0 0 w hx hy (.inr (by rw [dg_zero]; rfl))).mono ?_
    rintro e w' ⟨rfl, rfl⟩
    exact ⟨by rw [dg_zero]; rfl, 0, rfl⟩
  · subst h
    refine (ncmp_len vx vy 0 n w hx hy (.inr (by rw [dg_zero]; rfl))).mono ?_
    rintro e w' ⟨rfl, rfl⟩
    refine ⟨?_, 0, rfl⟩
    have e : cmpI 0 n = -1 := by rw [cmpI, if_pos h']
    rw [dg_zero, dg_one h' hn1, e]; rfl
  · subst h'
    refine (ncmp_len vx vy m 0 w hx hy (.inl (by rw [dg_zero, dg_one h hm1]; simp))).mono ?_
    rintro e w' ⟨rfl, rfl⟩
    refine ⟨?_, 0, rfl⟩
    have e : cmpI m 0 = 1 := by rw [cmpI, if_neg (by omega), if_neg (by omega)]
    rw [dg_zero, dg_one h hm1, e]; rfl
  · exact ncmp_11 vx vy m n w hx hy h hm1 h' hn1
end Go.Proofs.YtdhgdachchhflaaGreatDoor
