/- Walks and lemmas for the laws of this seat. -/
import Derived.Test.YtocahcammjoffaaGreatDoorX2
namespace Go.Proofs.YtocahcammjoffaaGreatDoor
open Go.RowKit Go.MuLone
set_option maxRecDepth 100000
/-- Where appendReverse of a sum stands at the head of its loop. -/
def AR (w : World) (a c : Nat) (sb : ByteArray) (vy vl : Value) (wr : World) : Prop :=
  (vy = .pointer (some ⟨c, 0, none⟩) ∧ vl = .slice none 0 0 ∧ wr = w) ∨
  (vy = .pointer (some ⟨a, 0, none⟩) ∧ ∃ v, v = vl ∧ wr.ownsRow w.heap.size 9 1 v 1 [.string sb] ∧ ∃ w2, Below w.heap.size w w2 ∧ wr = w2.setCell ⟨a, 0, none⟩ (.int .i32 1))
def arM (c : Nat) : Value → Nat
  | .pointer (some p) => if p.block = c then 1 else 0
  | _ => 0
set_option maxHeartbeats 1000000 in
theorem aR_sum (c a b : Nat) (sa sb s0 : ByteArray) (w : World) (hc : St w c a b 1 s0) (ha : Sv w a sa) (hb : Sv w b sb) (hac : a ≠ c) :
    Calls Tryz.prog 236 #[.pointer (some ⟨c, 0, none⟩), .slice none 0 0] w fun e w' => ∃ v', e = .returned v' ∧ w'.ownsRow w.heap.size 9 1 v' 2 [.string sb, .string sa] ∧ Below w.heap.size w w' := by
  have HC := hid hc
  have HA := hid ha
  have HB := hid hb
  clear hc ha hb
  have hnes := neq_str_same ⟨c, 0, none⟩
  go_enter Tryz.func236, Tryz.ntmps236
  go_wp2_with fail
  go_loopw [5, 1] (fun vy vl wr => AR w a c sb vy vl wr) (fun vy _ _ => arM c vy)
  case atStart => exact .inl ⟨rfl, rfl, rfl⟩
  case round =>
    rcases hrel with ⟨rfl, rfl, rfl⟩ | ⟨rfl, vl, rfl, hown, w2, hb2, rfl⟩
    · obtain ⟨c0, c2, c3, c4, f0⟩ := HC.out.five
      go_wp2_with fail
      clear c0 c2 c3 c4 f0
      refine (lock_free muLib ⟨b, 0, none⟩ _ (HB.out.cell 0) (HB.out.frozen 0)).mono ?_
      rintro e w1 ⟨rfl, rfl⟩
      have HB1 : Hid (Blk (wr.setCell ⟨b, 0, none⟩ (.int .i32 1)) b #[.int .i32 1, .int .u32 0, .string sb, .pointer none, .pointer none] 187) := by
        refine hid ?_
        have := HB.out.set 0 (.int .i32 1)
        simpa using this
      have hl1 : wr.heap.size = (wr.setCell ⟨b, 0, none⟩ (.int .i32 1)).heap.size := by simp [World.setCell]
      have HL1 := hid hl1
      clear hl1
      have HT : Hid (∀ w1 : World, Below wr.heap.size (wr.setCell ⟨b, 0, none⟩ (.int .i32 1)) w1 → Below wr.heap.size wr (w1.setCell ⟨b, 0, none⟩ (.int .i32 0))) := fun w1 h => below_turned HB.out HB.out.lt 0 _ _ rfl h
      have c4 : (wr.setCell ⟨b, 0, none⟩ (.int .i32 1)).cell? ⟨c, 4, none⟩ = some (.pointer (some ⟨b, 0, none⟩)) := by
        rw [World.cell?_setCell_other _ _ _ _ (by simp)]
        exact HC.out.cell 4
      generalize wr.setCell ⟨b, 0, none⟩ (.int .i32 1) = w1 at *
      go_wp2_with fail
      refine (aR_leaf b sb 1 wr.heap.size _ _ 0 [] HB1.out (Nat.le_of_eq HL1.out) (World.ownsRow_nil _ _ _ _) (by omega)).mono ?_
      rintro e w3 ⟨v', rfl, hown, hb3⟩
      have HOWN := hid hown
      have HB3 := hid hb3
      clear hown hb3
      have c4 : w3.cell? ⟨c, 4, none⟩ = some (.pointer (some ⟨b, 0, none⟩)) := (HB3.out.cell (p := ⟨c, 4, none⟩) HC.out.lt).trans c4
      go_wp2_with fail
      have HB4 := HB1.out.below HB3.out HB.out.lt
      refine (unlock_held muLib ⟨b, 0, none⟩ _ (HB4.cell 0) (HB4.frozen 0)).mono ?_
      rintro e w4 ⟨rfl, rfl⟩
      clear HB4 c4
      have HW4 := hid (HT.out _ HB3.out)
      have HO4 : Hid (World.ownsRow (w3.setCell ⟨b, 0, none⟩ (.int .i32 0)) wr.heap.size 9 1 v' 1 [.string sb]) := ownsRow_setCell_below HOWN.out (a := ⟨b, 0, none⟩) HB.out.lt _
      clear HOWN HB3 HT
      generalize w3.setCell ⟨b, 0, none⟩ (.int .i32 0) = w4 at *
      obtain ⟨c0, c2, c3, c4, f0⟩ := (HC.out.below HW4.out HC.out.lt).five
      go_wp2_with fail
      clear c0 c2 c3 c4 f0
      have HA4 := HA.out.below HW4.out HA.out.lt
      refine (lock_free muLib ⟨a, 0, none⟩ _ (HA4.cell 0) (HA4.frozen 0)).mono ?_
      rintro e w5 ⟨rfl, rfl⟩
      clear HA4
      have HO5 := hid (ownsRow_setCell_below HO4.out (a := ⟨a, 0, none⟩) HA.out.lt (.int .i32 1))
      go_wp2_with fail
      go_roundw
      case rel => exact .inr ⟨rfl, _, rfl, HO5.out, _, HW4.out, rfl⟩
      case measure => simp [arM, hac]
    · have HA2 := hid (HA.out.below hb2 HA.out.lt)
      have HC2 := hid (HC.out.below hb2 HC.out.lt)
      have HA3 : Hid (Blk (w2.setCell ⟨a, 0, none⟩ (.int .i32 1)) a #[.int .i32 1, .int .u32 0, .string sa, .pointer none, .pointer none] 187) := by
        refine hid ?_
        have := HA2.out.set 0 (.int .i32 1)
        simpa using this
      have HC3 : Hid (St (w2.setCell ⟨a, 0, none⟩ (.int .i32 1)) c a b 1 s0) := by
        have := Below.heap_setCell w2 ⟨a, 0, none⟩ (.int .i32 1) c (fun e => hac e.symm)
        exact this.trans HC2.out
      have heq := neq_str HA3.out HC3.out hac
      have HE : Hid ((w2.setCell ⟨a, 0, none⟩ (.int .i32 1)).setCell ⟨a, 0, none⟩ (.int .i32 0) = w2) := setCell_back HA2.out 0 _ _ rfl
      have HO := hid (ownsRow_setCell_below hown (a := ⟨a, 0, none⟩) HA.out.lt (.int .i32 0))
      clear hown
      rw [HE.out] at HO
      have HB2 := hid hb2
      clear hb2
      generalize w2.setCell ⟨a, 0, none⟩ (.int .i32 1) = w3 at *
      obtain ⟨c0, c2, c3, c4, f0⟩ := HA3.out.five
      go_wp2_with fail
      refine (unlock_held muLib ⟨a, 0, none⟩ _ (HA3.out.cell 0) (HA3.out.frozen 0)).mono ?_
      rintro e w4 ⟨rfl, rfl⟩
      clear c0 c2 c3 c4 f0 heq
      rw [HE.out]
      go_wp2_with (at_builtin; refine app1v rfl _ _ 253 9 rfl (.string (ByteArray.mk #[])) 16 Tryz.underlying253 info9 rfl (by decide) w.heap.size w2 vl 1 [.string sb] (.string sa) rfl rfl rfl HO.out (Below.refl _ _) HB2.out.size (by omega) ?_; intro v' w' hown2 hb2)
      go_ret
      exact ⟨_, rfl, hown2, HB2.out.trans hb2⟩
end Go.Proofs.YtocahcammjoffaaGreatDoor
