/- Walks and lemmas for the laws of this seat. -/
import Derived.Test.YtgdgklhfakplhaaGreatDoorH01
import Derived.Test.YtgdgklhfakplhaaGreatDoorH02
import Derived.BigQuiet
import Derived.Deep.QuietTactic
import Derived.Deep.LoopGhost
import Derived.Deep.OwnRows
import Derived.Laws.Bits64b
import Derived.Laws.AppendOwnNone
import Derived.LaidEqlPtr
namespace Go.Proofs.YtgdgklhfakplhaaGreatDoor
open Go.RowKit Go.Dig
theorem hid {p : Prop} (h : p) : Hid p := h

/-- A slice that reads as the numbers ds, each of kind k. -/
def Rd (k : IntKind) (w : World) (v : Value) (ds : List Nat) : Prop :=
  ∃ a cap, v = .slice a ds.length cap ∧ ds.length ≤ cap ∧ cap ≤ 9223372036854775807 ∧
    (0 < ds.length → ∃ b off, a = some ⟨b, off, none⟩ ∧ ∀ i, i < ds.length → w.cell? ⟨b, off + i, none⟩ = some (.int k (ds.getD i 0 : Nat)))

/-- As Rd; and its cells lie in a block of the element type e. -/
def Rt (e : TypeId) (k : IntKind) (w : World) (v : Value) (ds : List Nat) : Prop :=
  ∃ a cap, v = .slice a ds.length cap ∧ ds.length ≤ cap ∧ cap ≤ 9223372036854775807 ∧
    (0 < ds.length → ∃ b off, a = some ⟨b, off, none⟩ ∧ (∃ m, w.shape? b = some (e, m)) ∧ ∀ i, i < ds.length → w.cell? ⟨b, off + i, none⟩ = some (.int k (ds.getD i 0 : Nat)))

theorem Rt.rd {e : TypeId} {k : IntKind} {w : World} {v : Value} {ds : List Nat} (h : Rt e k w v ds) : Rd k w v ds := by
  obtain ⟨a, cap, h0, h1, h2, h3⟩ := h
  refine ⟨a, cap, h0, h1, h2, fun hp => ?_⟩
  obtain ⟨b, off, e, _, hc⟩ := h3 hp
  exact ⟨b, off, e, hc⟩

theorem Rd.below {k : IntKind} {w w' : World} {v : Value} {ds : List Nat} (h : Rd k w v ds) {B : Nat} (hb : Below B w w') (hB : w.heap.size ≤ B) : Rd k w' v ds := by
  obtain ⟨a, cap, rfl, h1, h2, h3⟩ := h
  refine ⟨a, cap, rfl, h1, h2, fun hp => ?_⟩
  obtain ⟨b, off, e, hc⟩ := h3 hp
  refine ⟨b, off, e, fun i hi => ?_⟩
  rw [hb.cell (Nat.lt_of_lt_of_le (World.block_lt_of_cell? w _ (hc i hi)) hB)]
  exact hc i hi

theorem shape_below {B : Nat} {w w' : World} (h : Below B w w') {b : Nat} (hb : b < B) : w'.shape? b = w.shape? b := by
  unfold World.shape?; rw [h.block b hb]

theorem shape_alloc (w : World) (c : Array Value) (e : TypeId) : (w.alloc (.cells c e)).shape? w.heap.size = some (e, c.size) := by
  unfold World.shape?
  show (match (w.heap.push (.cells c e))[w.heap.size]? with | some (.cells c elem _) => some (elem, c.size) | _ => none) = _
  rw [Array.getElem?_push_size]
/-- A struct of three cells of the type t is filled behind a call: what was there stays. -/
theorem fill3 {w w1 : World} {c : Array Value} {t : TypeId} (hb : Below (w.heap.size + 1) (w.alloc (.cells c t)) w1) (x0 x1 x2 : Value) :
    Below w.heap.size w (((w1.setCell ⟨w.heap.size, 0, none⟩ x0).setCell ⟨w.heap.size, 1, none⟩ x1).setCell ⟨w.heap.size, 2, none⟩ x2) := by
  have h1 : Below w.heap.size w w1 := ((Below.refl w.heap.size w).alloc (Nat.le_refl _) _).trans (hb.mono (by omega))
  exact ((h1.setCell (Nat.le_refl _) x0).setCell (Nat.le_refl _) x1).setCell (Nat.le_refl _) x2

/-- A block known whole. -/
def Blk (w : World) (b : Nat) (c : Array Value) (e : TypeId) : Prop := w.heap[b]? = some (.cells c e (0, 0))
theorem blk_new (w : World) (c : Array Value) (e : TypeId) : Blk (w.alloc (.cells c e)) w.heap.size c e := by
  unfold Blk
  show (w.heap.push (.cells c e))[w.heap.size]? = _
  rw [Array.getElem?_push_size]
theorem Blk.below {w w' : World} {b B : Nat} {c : Array Value} {e : TypeId} (h : Blk w b c e) (hb : Below B w w') (hB : b < B) : Blk w' b c e := (hb.block b hB).trans h
theorem Blk.lt {w : World} {b : Nat} {c : Array Value} {e : TypeId} (h : Blk w b c e) : b < w.heap.size := by
  unfold Blk at h
  rcases Nat.lt_or_ge b w.heap.size with h' | h'
  · exact h'
  · rw [Array.getElem?_eq_none h'] at h; cases h
theorem Blk.alloc {w : World} {b : Nat} {c : Array Value} {e : TypeId} (h : Blk w b c e) (o : Obj) : Blk (w.alloc o) b c e := h.below ((Below.refl w.heap.size w).alloc (Nat.le_refl _) o) h.lt
theorem Blk.cell {w : World} {b : Nat} {c : Array Value} {e : TypeId} (h : Blk w b c e) (i : Nat) : w.cell? ⟨b, i, none⟩ = c[i]? := by
  unfold Blk at h; simp [World.cell?, h]
theorem Blk.frozen {w : World} {b : Nat} {c : Array Value} {e : TypeId} (h : Blk w b c e) (i : Nat) : w.frozen? ⟨b, i, none⟩ = false := by
  unfold Blk at h; simp [World.frozen?, h]
theorem Blk.shape {w : World} {b : Nat} {c : Array Value} {e : TypeId} (h : Blk w b c e) : w.shape? b = some (e, c.size) := by
  unfold Blk at h; simp [World.shape?, h]
theorem Blk.set {w : World} {b : Nat} {c : Array Value} {e : TypeId} (h : Blk w b c e) (i : Nat) (v : Value) : Blk (w.setCell ⟨b, i, none⟩ v) b (c.setIfInBounds i v) e := by
  unfold Blk at *
  simp only [World.setCell, Array.getElem?_modify, if_true, h, Option.map_some]
  rfl
theorem Blk.three {w : World} {b : Nat} {x0 x1 x2 : Value} {e : TypeId} (h : Blk w b #[x0, x1, x2] e) :
    w.cell? ⟨b, 0, none⟩ = some x0 ∧ w.cell? ⟨b, 1, none⟩ = some x1 ∧ w.cell? ⟨b, 2, none⟩ = some x2 ∧ w.frozen? ⟨b, 0, none⟩ = false ∧ w.frozen? ⟨b, 1, none⟩ = false ∧ w.frozen? ⟨b, 2, none⟩ = false :=
  ⟨h.cell 0, h.cell 1, h.cell 2, h.frozen 0, h.frozen 1, h.frozen 2⟩

theorem shape_lt {w : World} {b : Nat} {x : TypeId × Nat} (h : w.shape? b = some x) : b < w.heap.size := by
  unfold World.shape? at h
  rcases Nat.lt_or_ge b w.heap.size with h' | h'
  · exact h'
  · rw [Array.getElem?_eq_none h'] at h; cases h

theorem Rt.below {e : TypeId} {k : IntKind} {w w' : World} {v : Value} {ds : List Nat} (h : Rt e k w v ds) {B : Nat} (hb : Below B w w') (hB : w.heap.size ≤ B) : Rt e k w' v ds := by
  obtain ⟨a, cap, rfl, h1, h2, h3⟩ := h
  refine ⟨a, cap, rfl, h1, h2, fun hp => ?_⟩
  obtain ⟨b, off, e, ⟨m, hm⟩, hc⟩ := h3 hp
  have hlt := Nat.lt_of_lt_of_le (shape_lt hm) hB
  refine ⟨b, off, e, ⟨m, by rw [shape_below hb hlt]; exact hm⟩, fun i hi => ?_⟩
  rw [hb.cell hlt]
  exact hc i hi

theorem shape_setCell (w : World) (p : Addr) (u : Value) (b : Nat) : (w.setCell p u).shape? b = w.shape? b := by
  unfold World.setCell World.shape?
  simp only [Array.getElem?_modify]
  by_cases hb : p.block = b
  · rw [if_pos hb]
    cases hh : w.heap[b]? with
    | none => rfl
    | some x => cases x <;> simp only [Option.map_some]; split <;> simp
  · rw [if_neg hb]

/-- A store into a block of another element type. -/
theorem Rt.set {e e' : TypeId} {k : IntKind} {w : World} {v : Value} {ds : List Nat} (h : Rt e k w v ds) {p : Addr} (u : Value) {m : Nat} (hs : w.shape? p.block = some (e', m)) (hne : e' ≠ e) : Rt e k (w.setCell p u) v ds := by
  obtain ⟨a, cap, rfl, h1, h2, h3⟩ := h
  refine ⟨a, cap, rfl, h1, h2, fun hp => ?_⟩
  obtain ⟨b, off, eb, ⟨m2, hm⟩, hc⟩ := h3 hp
  refine ⟨b, off, eb, ⟨m2, by rw [shape_setCell]; exact hm⟩, fun i hi => ?_⟩
  rw [World.cell?_setCell_other]
  · exact hc i hi
  · intro e1
    rw [e1] at hs
    rw [hs] at hm
    exact hne (congrArg (fun x => (x.getD (0, 0)).1) hm)

theorem Rd.shape {k : IntKind} {w : World} {v : Value} {ds : List Nat} (h : Rd k w v ds) : ∃ a c, v = .slice a ds.length c := by
  obtain ⟨a, c, rfl, _⟩ := h
  exact ⟨a, c, rfl⟩
theorem Rt.shape {e : TypeId} {k : IntKind} {w : World} {v : Value} {ds : List Nat} (h : Rt e k w v ds) : ∃ a c, v = .slice a ds.length c := h.rd.shape
theorem Rt.take {e : TypeId} {k : IntKind} {w : World} {a : Option Addr} {n cap : Nat} {ds : List Nat} (h : Rt e k w (.slice a n cap) ds) {m : Nat} (hm : m ≤ n) : Rt e k w (.slice a m cap) (ds.take m) := by
  obtain ⟨a', cap', e1, h1, h2, h3⟩ := h
  simp only [Value.slice.injEq] at e1
  obtain ⟨rfl, rfl, rfl⟩ := e1
  refine ⟨a, cap, by rw [List.length_take, Nat.min_eq_left hm], by rw [List.length_take]; omega, h2, fun hp => ?_⟩
  rw [List.length_take] at hp
  obtain ⟨b2, off2, e2, hsh, hb2⟩ := h3 (by omega)
  refine ⟨b2, off2, e2, hsh, fun i hi => ?_⟩
  rw [List.length_take] at hi
  rw [hb2 i (by omega)]
  congr 3
  simp only [List.getD_eq_getElem?_getD]
  rw [List.getElem?_take_of_lt (by omega)]

theorem Rd.nil (k : IntKind) (w : World) : Rd k w (.slice none 0 0) [] := ⟨none, 0, rfl, by simp, by omega, fun h => absurd h (by simp)⟩
theorem Rt.nil (e : TypeId) (k : IntKind) (w : World) : Rt e k w (.slice none 0 0) [] := ⟨none, 0, rfl, by simp, by omega, fun h => absurd h (by simp)⟩

/-- A struct of three cells of the type t is filled: what lies in blocks of another element type stays. -/
theorem Rt.set3 {e t : TypeId} {k : IntKind} {w1 : World} {v : Value} {ds : List Nat} (h : Rt e k w1 v ds) {b : Nat} {c : Array Value} (hB : Blk w1 b c t) (hne : t ≠ e) (x0 x1 x2 : Value) :
    Rt e k (((w1.setCell ⟨b, 0, none⟩ x0).setCell ⟨b, 1, none⟩ x1).setCell ⟨b, 2, none⟩ x2) v ds := by
  have hs := hB.shape
  have h1 := h.set (p := ⟨b, 0, none⟩) x0 hs hne
  have hs1 : (w1.setCell ⟨b, 0, none⟩ x0).shape? b = some (t, c.size) := by rw [shape_setCell]; exact hs
  have h2 := h1.set (p := ⟨b, 1, none⟩) x1 hs1 hne
  exact h2.set (p := ⟨b, 2, none⟩) x2 (by rw [shape_setCell]; exact hs1) hne
theorem below_set3 {B : Nat} {w w1 : World} (h : Below B w w1) {b : Nat} (hB : B ≤ b) (x0 x1 x2 : Value) :
    Below B w (((w1.setCell ⟨b, 0, none⟩ x0).setCell ⟨b, 1, none⟩ x1).setCell ⟨b, 2, none⟩ x2) := ((h.setCell hB x0).setCell hB x1).setCell hB x2

theorem Rt.fill3 {e t : TypeId} {k : IntKind} {w w1 : World} {v : Value} {ds : List Nat} (h : Rt e k w1 v ds) {c : Array Value} (hb : Below (w.heap.size + 1) (w.alloc (.cells c t)) w1) (hne : t ≠ e) (x0 x1 x2 : Value) :
    Rt e k (((w1.setCell ⟨w.heap.size, 0, none⟩ x0).setCell ⟨w.heap.size, 1, none⟩ x1).setCell ⟨w.heap.size, 2, none⟩ x2) v ds := by
  have hs : w1.shape? w.heap.size = some (t, c.size) := by rw [shape_below hb (by omega), shape_alloc]
  have h1 := h.set (p := ⟨w.heap.size, 0, none⟩) x0 hs hne
  have hs1 : (w1.setCell ⟨w.heap.size, 0, none⟩ x0).shape? w.heap.size = some (t, c.size) := by rw [shape_setCell]; exact hs
  have h2 := h1.set (p := ⟨w.heap.size, 1, none⟩) x1 hs1 hne
  exact h2.set (p := ⟨w.heap.size, 2, none⟩) x2 (by rw [shape_setCell]; exact hs1) hne

/-- The digits as cells. -/
def cs (k : IntKind) (ds : List Nat) : List Value := ds.map fun d => .int k (d : Nat)
theorem cs_snoc (k : IntKind) (ds : List Nat) (d : Nat) : cs k ds ++ [.int k (d : Nat)] = cs k (ds ++ [d]) := by simp [cs]
theorem cs_length (k : IntKind) (ds : List Nat) : (cs k ds).length = ds.length := by simp [cs]
theorem cs_getElem? (k : IntKind) (ds : List Nat) (i : Nat) (h : i < ds.length) : (cs k ds).toArray[i]? = some (.int k (ds.getD i 0 : Nat)) := by
  simp [cs, List.getElem?_eq_getElem h]
theorem cs_set (k : IntKind) (ds : List Nat) (i d : Nat) : (cs k ds).toArray.setIfInBounds i (.int k (d : Int)) = (cs k (ds.set i d)).toArray := by
  simp [cs]
theorem cs_zeros (k : IntKind) (n : Nat) : madeCells #[.int k 0] n = (cs k (List.replicate n 0)).toArray := by
  apply Array.ext_getElem?
  intro i
  by_cases hi : i < n
  · simp [madeCells, cs, hi, Nat.mod_one]
  · simp [madeCells, cs, hi]
/-- A block known whole, of numbers. -/
abbrev BlkN (k : IntKind) (e : TypeId) (w : World) (b : Nat) (ds : List Nat) : Prop := Blk w b (cs k ds).toArray e
theorem BlkN.at {k : IntKind} {e : TypeId} {w : World} {b : Nat} {ds : List Nat} (h : BlkN k e w b ds) {i : Nat} (hi : i < ds.length) : w.cell? ⟨b, i, none⟩ = some (.int k (ds.getD i 0 : Nat)) := by
  rw [h.cell, cs_getElem? k ds i hi]
theorem BlkN.put {k : IntKind} {e : TypeId} {w : World} {b : Nat} {ds : List Nat} (h : BlkN k e w b ds) (i d : Nat) : BlkN k e (w.setCell ⟨b, i, none⟩ (.int k (d : Int))) b (ds.set i d) := by
  have := Blk.set h i (.int k (d : Int))
  rwa [cs_set] at this
theorem BlkN.rt {k : IntKind} {e : TypeId} {w : World} {b : Nat} {ds : List Nat} (h : BlkN k e w b ds) {cap : Nat} (h1 : ds.length ≤ cap) (h2 : cap ≤ 9223372036854775807) : Rt e k w (.slice (some ⟨b, 0, none⟩) ds.length cap) ds :=
  ⟨_, cap, rfl, h1, h2, fun _ => ⟨b, 0, rfl, ⟨_, h.shape⟩, fun i hi => by rw [Nat.zero_add]; exact h.at hi⟩⟩
theorem blkN_made (k : IntKind) (e : TypeId) (w : World) (n : Nat) : BlkN k e (w.alloc (.cells (madeCells #[.int k 0] n) e)) w.heap.size (List.replicate n 0) := by
  rw [cs_zeros]; exact blk_new w _ e

/-- A row of the call's own reads as its cells. -/
theorem own_rd {w : World} {base e : Nat} {k : IntKind} {v : Value} {n : Nat} {ds : List Nat} (h : w.ownsRow base e 1 v n (cs k ds)) : Rt e k w v ds := by
  obtain ⟨hl, h⟩ := h
  rw [cs_length, Nat.mul_one] at hl
  subst hl
  rcases h with ⟨rfl, h0⟩ | ⟨g, cap, cur, rfl, _, hg, hnc, hcap, hsz, htk⟩
  · have : ds = [] := List.eq_nil_of_length_eq_zero h0
    subst this
    exact Rt.nil e k w
  · refine ⟨_, cap, rfl, hnc, by unfold maxLen at hcap; omega, fun _ => ⟨g, 0, rfl, ⟨cur.size, by simp [World.shape?, hg]⟩, fun i hi => ?_⟩⟩
    have e1 : w.cell? ⟨g, 0 + i, none⟩ = cur[i]? := by simp [World.cell?, hg]
    rw [e1]
    have e2 : cur[i]? = (cs k ds)[i]? := by
      rw [← htk, List.getElem?_take_of_lt (by omega)]; simp
    rw [e2]
    simp [cs, List.getElem?_eq_getElem hi]
/-- A new row that is empty is owned. -/
theorem own_empty (w : World) (e : Nat) {base : Nat} (h : base ≤ w.heap.size) : (w.alloc (.cells #[] e)).ownsRow base e 1 (.slice (some ⟨w.heap.size, 0, none⟩) 0 0) 0 [] := by
  refine ⟨rfl, .inr ⟨w.heap.size, 0, #[], rfl, h, by show (w.heap.push _)[w.heap.size]? = _; simp, Nat.le_refl _, by unfold maxLen; omega, rfl, rfl⟩⟩

theorem bcell {W w1 : World} (hb : Below W.heap.size W w1) : (∀ b o, b < W.heap.size → w1.cell? ⟨b, o, none⟩ = W.cell? ⟨b, o, none⟩) ∧ (∀ b o, b < W.heap.size → w1.frozen? ⟨b, o, none⟩ = W.frozen? ⟨b, o, none⟩) :=
  ⟨fun b o h => hb.cell (p := ⟨b, o, none⟩) h, fun b o h => hb.frozen (p := ⟨b, o, none⟩) h⟩
/-- The slice of a natural number of the reference, by its digits to 65536. -/
abbrev Nt (w : World) (v : Value) (n : Nat) : Prop := Rt 3 .i64 w v (dg 65536 n)

theorem dgl (n : Nat) : ∀ d ∈ dg 65536 n, d < 65536 := dg_lt (by omega) n
theorem dg_len_pos (n : Nat) : decide (0 < (dg 65536 n).length) = decide (n ≠ 0) := by
  by_cases h : n = 0
  · subst h; rw [dg_zero]; rfl
  · rw [dg_pos (by omega) h]; simp [h]
theorem getD_lt {l : List Nat} {b : Nat} (hb : 0 < b) (h : ∀ d ∈ l, d < b) (i : Nat) : l.getD i 0 < b := by
  rcases Nat.lt_or_ge i l.length with hi | hi
  · rw [List.getD_eq_getElem?_getD, List.getElem?_eq_getElem hi]; exact h _ (List.getElem_mem hi)
  · rw [List.getD_eq_getElem?_getD, List.getElem?_eq_none hi]; simpa using hb

theorem own_base {w : World} {base e : Nat} {v : Value} {n : Nat} {xs : List Value} (h : w.ownsRow base e 1 v n xs) : ∀ k, v.ownBlock = some k → base ≤ k := by
  intro k hk
  rcases h.2 with ⟨rfl, _⟩ | ⟨g, cap, cur, rfl, hg, _⟩
  · cases hk
  · simp only [Value.ownBlock, Option.some.injEq] at hk; omega

/-- 'out = append(out, d)', one number, out the call's own. -/
theorem app1 {P : Program} {ops : Array Oper} {rest : List Oper} {o : Oper} {a : Act} {Q : Exit → Act → World → Prop} {w : World} (hgd : o.guard = none) (s x : Operand) (t e : TypeId)
    (ho : o.op = .call { callee := .builtin .append, args := #[s, x], argTypes := #[t, t] }) (k : IntKind) (bytes : Nat) (ht : P.underlying t = some (.slice e))
    (hinfo : (P.info? e).map (fun i => (i.zero, i.size, i.bytes)) = some (some (.int k 0), 1, bytes)) (hby : bytes ≤ 8)
    (base : Nat) (wB : World) (v : Value) (ds : List Nat) (d : Int) (d' : Nat) (hd : d = (d' : Int)) (hs : a.eval s = v) (hx : a.eval x = .slice (some ⟨w.heap.size, 0, none⟩) 1 1)
    (hown : w.ownsRow base e 1 v ds.length (cs k ds)) (hb : Below base wB w) (hbase : base ≤ w.heap.size) (hlen : ds.length < 1000000000)
    (h : ∀ v' w', w'.ownsRow base e 1 v' (ds ++ [d']).length (cs k (ds ++ [d'])) → Below base wB w' → v' ≠ .slice none 0 0 → wpList P ops Q rest (a.put o.dst v') w') :
    wpList P ops Q (o :: rest) a (w.alloc (.cells #[.int k d] e)) := by
  subst hd
  obtain ⟨i0, hi, hz0, hz1, hz2⟩ := info_parts hinfo
  have hc : (w.alloc (.cells #[.int k (d' : Int)] e)).cell? ⟨w.heap.size, 0, none⟩ = some (.int k (d' : Int)) := by rw [World.cell?_alloc_new]; rfl
  refine wpList_append_own _ hgd s x t ho base e i0 (.int k 0) 1 bytes ht hi hz0 hz1 hz2 rfl (by decide) v ds.length (cs k ds) hs (hown.alloc _) ⟨w.heap.size, 0, none⟩ 1 1 [.int k (d' : Int)] hx rfl ?_ ?_ ?_ ?_ ?_ ?_
  · intro j u hj
    match j, hj with
    | 0, hj => simp at hj; subst hj; exact hc
  · intro u hu; simp at hu; subst hu; rfl
  · unfold maxLen; omega
  · calc (ds.length + 1) * bytes ≤ 1000000000 * 8 := Nat.mul_le_mul (by omega) hby
      _ ≤ _ := by omega
  · simp; omega
  · intro v' w' h1 h2 h3
    refine h v' w' ?_ ?_ ?_
    · rw [cs_snoc] at h1; simpa using h1
    · exact (hb.alloc hbase _).grown h2 (by simp; omega) (own_base hown)
    · intro e1; have := h3.1 e1; omega
theorem _root_.Go.RowKit.Below.drewN {B : Nat} {a w : World} (h : Below B a w) (n : Nat) : Below B a (w.drewN n) := ⟨h.os, h.tape, h.output, h.size, h.block⟩
theorem below_drewN' {B : Nat} {w : World} (n : Nat) : Below B w (w.drewN n) := (Below.refl B w).drewN n
end Go.Proofs.YtgdgklhfakplhaaGreatDoor
namespace Go.Dig
theorem val_inj {b : Nat} (hb : 0 < b) : ∀ {l m : List Nat}, l.length = m.length → (∀ d ∈ l, d < b) → (∀ d ∈ m, d < b) → val b l = val b m → l = m
  | [], [], _, _, _, _ => rfl
  | d :: l, e :: m, hl, h1, h2, hv => by
    have hd := h1 d (by simp)
    have he := h2 e (by simp)
    simp only [val] at hv
    have e1 : d = e := by
      have := congrArg (· % b) hv
      simpa [Nat.add_mul_mod_self_left, Nat.mod_eq_of_lt hd, Nat.mod_eq_of_lt he] using this
    subst e1
    have e2 : val b l = val b m := Nat.eq_of_mul_eq_mul_left hb (Nat.add_left_cancel hv)
    rw [val_inj hb (by simpa using hl) (fun x hx => h1 x (List.mem_cons_of_mem _ hx)) (fun x hx => h2 x (List.mem_cons_of_mem _ hx)) e2]
theorem wb_pow (k : Nat) : (18446744073709551616 : Nat) ^ k = 65536 ^ (4 * k) := by
  rw [show (18446744073709551616 : Nat) = 65536 ^ 4 from rfl, ← Nat.pow_mul]
theorem dg_words_len (n : Nat) : (dg 18446744073709551616 n).length = ((dg 65536 n).length + 3) / 4 := by
  by_cases h : n = 0
  · subst h; rw [dg_zero, dg_zero]; rfl
  · have hL : 0 < (dg 65536 n).length := by
      rcases Nat.eq_zero_or_pos (dg 65536 n).length with h' | h'
      · exact absurd ((dg_nil_iff (b := 65536) (by omega)).1 (List.eq_nil_of_length_eq_zero h')) h
      · exact h'
    have h0 := pow_le_of_dg_length (b := 65536) (by omega) (n := n) (k := (dg 65536 n).length - 1) (by omega)
    have h1 := lt_pow_dg_length (b := 65536) (by omega) n
    generalize (dg 65536 n).length = L at *
    have := dg_length_eq (b := 18446744073709551616) (by omega) (n := n) (k := (L - 1) / 4)
      (by rw [wb_pow]; exact Nat.le_trans (Nat.pow_le_pow_right (by omega) (by omega)) h0)
      (by rw [wb_pow]; exact Nat.lt_of_lt_of_le h1 (Nat.pow_le_pow_right (by omega) (by omega)))
    rw [this]
    omega
/-- Where the making of words out of digits stands behind i digits. -/
structure WI (ds : List Nat) (i : Nat) (o : List Nat) : Prop where
  len : o.length = (i + 3) / 4
  lt : ∀ x ∈ o, x < 18446744073709551616
  eq : val 18446744073709551616 o = val 65536 (ds.take i)
theorem WI.zero (ds : List Nat) : WI ds 0 [] := ⟨rfl, by simp, by simp [val]⟩
/-- The word that the next digit goes into is there. -/
structure WJ (ds : List Nat) (q r : Nat) (o : List Nat) : Prop where
  len : o.length = q + 1
  lt : ∀ x ∈ o, x < 18446744073709551616
  eq : val 18446744073709551616 o = val 65536 (ds.take (4 * q + r))
theorem WI.open_ {ds o : List Nat} {q : Nat} (h : WI ds (4 * q) o) : WJ ds q 0 (o ++ [0]) := by
  have hl := h.len
  refine ⟨by rw [List.length_append, hl, List.length_singleton]; omega, ?_, ?_⟩
  · intro x hx
    rcases List.mem_append.1 hx with h' | h'
    · exact h.lt x h'
    · simp at h'; omega
  · rw [val_append, h.eq]
    simp [val]
theorem WI.held {ds o : List Nat} {q r : Nat} (h : WI ds (4 * q + r) o) (hr : 0 < r) (h3 : r ≤ 3) : WJ ds q r o := by
  have hl := h.len
  exact ⟨by omega, h.lt, h.eq⟩
theorem WJ.old {ds o : List Nat} {q r : Nat} (h : WJ ds q r o) (hd : ∀ d ∈ ds, d < 65536) : o.getD q 0 < 65536 ^ r := by
  have hs := val_split_at (b := 18446744073709551616) (l := o) (i := q) (by rw [h.len]; omega)
  rw [h.eq] at hs
  have hlt := val_lt (b := 65536) (by omega) (l := ds.take (4 * q + r)) (fun d hx => hd d (List.mem_of_mem_take hx))
  have hp : (65536 : Nat) ^ (ds.take (4 * q + r)).length ≤ 65536 ^ (4 * q + r) := Nat.pow_le_pow_right (by omega) (List.length_take_le _ _)
  have hlt2 := Nat.lt_of_lt_of_le hlt hp
  rw [Nat.pow_add, ← wb_pow] at hlt2
  rcases Nat.lt_or_ge (o.getD q 0) (65536 ^ r) with h' | h'
  · exact h'
  · have h1 : 18446744073709551616 ^ q * 65536 ^ r ≤ 18446744073709551616 ^ q * (o.getD q 0 + 18446744073709551616 * val 18446744073709551616 (o.drop (q + 1))) := Nat.mul_le_mul_left _ (by omega)
    omega
theorem WJ.step {ds o : List Nat} {q r d : Nat} (h : WJ ds q r o) (hd : ∀ d ∈ ds, d < 65536) (hi : 4 * q + r < ds.length) (hx : ds.getD (4 * q + r) 0 = d) (hr : r ≤ 3) :
    WI ds (4 * q + r + 1) (o.set q (o.getD q 0 + d * 65536 ^ r)) := by
  have hold := h.old hd
  have hdl : d < 65536 := by rw [← hx, List.getD_eq_getElem?_getD, List.getElem?_eq_getElem hi]; exact hd _ (List.getElem_mem hi)
  have hnew : o.getD q 0 + d * 65536 ^ r < 18446744073709551616 := by
    have h1 : d * 65536 ^ r ≤ 65535 * 65536 ^ r := Nat.mul_le_mul_right _ (by omega)
    have h2 : (65536 : Nat) ^ (r + 1) ≤ 65536 ^ 4 := Nat.pow_le_pow_right (by omega) (by omega)
    rw [Nat.pow_succ] at h2
    omega
  have hl := h.len
  refine ⟨by rw [List.length_set, hl]; omega, ?_, ?_⟩
  · intro x hx'
    rcases List.mem_or_eq_of_mem_set hx' with h' | h'
    · exact h.lt x h'
    · rw [h']; exact hnew
  · have hs := val_set 18446744073709551616 o q (o.getD q 0 + d * 65536 ^ r) (by omega)
    rw [h.eq, Nat.add_mul, Nat.mul_assoc, wb_pow, ← Nat.pow_add] at hs
    rw [List.take_add_one, List.getElem?_eq_getElem hi, Option.toList_some, val_append, List.length_take, Nat.min_eq_left (by omega)]
    have e : ds[4 * q + r] = d := by rw [← hx, List.getD_eq_getElem?_getD, List.getElem?_eq_getElem hi]; rfl
    rw [e]
    simp only [val, Nat.mul_zero, Nat.add_zero]
    rw [Nat.add_comm r (4 * q)] at hs
    rw [Nat.mul_comm (65536 ^ (4 * q + r)) d]
    omega
theorem WI.done {n : Nat} {o : List Nat} (h : WI (dg 65536 n) (dg 65536 n).length o) : o = dg 18446744073709551616 n := by
  have e := h.eq
  rw [List.take_length, val_dg (by omega)] at e
  exact val_inj (b := 18446744073709551616) (by omega) (by rw [h.len, dg_words_len]) h.lt (dg_lt (by omega) n) (by rw [e, val_dg (by omega)])
/-- A byte goes down: V words' worth is there, r of the word's lower part is there, y of it is left. -/
theorem down_step {m : List Nat} {i k j V r y : Nat} (hm : i < m.length) (hi : i = 8 * k + j) (hv : val 256 (m.take i) = V + 18446744073709551616 ^ k * r) :
    val 256 ((m.set i (y % 256)).take (i + 1)) = V + 18446744073709551616 ^ k * (r + 256 ^ j * (y % 256)) := by
  have e1 : (m.set i (y % 256)).take i = m.take i := by rw [List.take_set_of_le (by omega)]
  have e2 : (256 : Nat) ^ i = 18446744073709551616 ^ k * 256 ^ j := by
    rw [hi, Nat.pow_add, Nat.pow_mul]
  rw [List.take_add_one, e1, List.getElem?_set_self hm, Option.toList_some, val_append, List.length_take, Nat.min_eq_left (by omega), hv, e2]
  simp only [val, Nat.mul_zero, Nat.add_zero]
  rw [Nat.mul_add, Nat.mul_assoc, Nat.add_assoc]
theorem down_left {x y r j : Nat} (h : x = y * 256 ^ j + r) : x = y / 256 * 256 ^ (j + 1) + (r + 256 ^ j * (y % 256)) := by
  have hy := Nat.div_add_mod y 256
  have e : y * 256 ^ j = (256 * (y / 256)) * 256 ^ j + (y % 256) * 256 ^ j := by rw [← Nat.add_mul, hy]
  rw [h, e, Nat.pow_succ, Nat.mul_comm (256 ^ j) (y % 256), Nat.mul_comm 256 (y / 256), Nat.mul_assoc, Nat.mul_comm 256 (256 ^ j)]
  omega
end Go.Dig
namespace Go.Proofs.YtgdgklhfakplhaaGreatDoor
open Go.RowKit Go.Dig
set_option maxRecDepth 100000
theorem cs_set_list (k : IntKind) (ds : List Nat) (i d : Nat) : (cs k ds).set i (.int k (d : Int)) = cs k (ds.set i d) := by simp [cs]
/-- A cell of a row of the call's own, and the row behind a store into it. -/
theorem own_at {w : World} {base e : Nat} {k : IntKind} {v : Value} {ds : List Nat} (h : w.ownsRow base e 1 v ds.length (cs k ds)) {i : Nat} (hi : i < ds.length) :
    ∃ g cap, v = .slice (some ⟨g, 0, none⟩) ds.length cap ∧ base ≤ g ∧ w.cell? ⟨g, i, none⟩ = some (.int k (ds.getD i 0 : Nat)) ∧ w.frozen? ⟨g, i, none⟩ = false ∧
      ∀ d : Nat, (w.setCell ⟨g, i, none⟩ (.int k (d : Int))).ownsRow base e 1 v (ds.set i d).length (cs k (ds.set i d)) := by
  obtain ⟨hl, h⟩ := h
  rcases h with ⟨rfl, h0⟩ | ⟨g, cap, cur, rfl, hg, hh, hnc, hcm, hcs, htk⟩
  · omega
  · have hB : Blk w g cur e := hh
    rw [Nat.mul_one] at htk hcs
    have hc : cur[i]? = some (.int k (ds.getD i 0 : Nat)) := by
      have e2 : cur[i]? = (cs k ds)[i]? := by
        rw [← htk, List.getElem?_take_of_lt hi]; simp
      rw [e2]
      simp [cs, List.getElem?_eq_getElem hi]
    refine ⟨g, cap, rfl, hg, (hB.cell i).trans hc, hB.frozen i, fun d => ⟨by rw [cs_length, Nat.mul_one], .inr ⟨g, cap, cur.setIfInBounds i (.int k (d : Int)), by rw [List.length_set], hg, hB.set i _, by rw [List.length_set]; exact hnc, hcm, by rw [Array.size_setIfInBounds]; omega, ?_⟩⟩⟩
    rw [Nat.mul_one, List.length_set, ← cs_set_list, ← htk, Array.toList_setIfInBounds, List.take_set]
/-- A word gets its next digit. -/
theorem or_digit {old d r : Nat} (h : old < 65536 ^ r) (hd : d < 65536) (hr : r ≤ 3) : bits .or .u64 (old : Int) (IntKind.u64.wrap ((d : Int) * 65536 ^ r)) = ((old + d * 65536 ^ r : Nat) : Int) := by
  have e0 : (65536 : Nat) ^ r = 2 ^ (16 * r) := by rw [Nat.pow_mul]
  have h1 : (65536 : Nat) ^ r ≤ 65536 ^ 3 := Nat.pow_le_pow_right (by omega) hr
  have h2 : d * 65536 ^ r ≤ 65535 * 65536 ^ 3 := Nat.mul_le_mul (by omega) h1
  have e : IntKind.u64.wrap ((d : Int) * 65536 ^ r) = ((d * 65536 ^ r : Nat) : Int) := by
    rw [IntKind.wrap_u64, show ((d : Int) * 65536 ^ r) = ((d * 65536 ^ r : Nat) : Int) by simp]
    omega
  rw [e, bits_or_u64_nat old (d * 65536 ^ r) (by omega) (by omega)]
  congr 1
  rw [e0] at h ⊢
  rw [← Nat.shiftLeft_eq, Nat.or_comm, ← Nat.shiftLeft_add_eq_or_of_lt h, Nat.add_comm]
theorem neq_ptr_same {P : Program} (w : World) {tp te : TypeId} {j : TypeInfo} (a : Addr) (hp : P.underlying tp = some (.pointer te)) (hte : P.info? te = some j) :
    (binOp .neq tp (.pointer (some a)) (.pointer (some a))).run P w = .ok (.bool false) w := by
  have h : ∀ d : Nat, (Op.equalIn (d + 1) tp (.pointer (some a)) (.pointer (some a))).run P w = .ok true w := fun d => by
    simp [Op.equalIn, run_underlying hp, sizeOf, typeInfo, hte, run_sameAddr_same]
  simp only [binOp]
  simp [Op.equal, Op.maxDepth, h 9999]
theorem neq_ptr_other {P : Program} (w : World) {tp te : TypeId} {j : TypeInfo} {a b : Addr} {ca cb : Array Value} {ta tb : TypeId} (hp : P.underlying tp = some (.pointer te)) (hte : P.info? te = some j) (hsz : j.size ≠ 0)
    (hne : a ≠ b) (ha : w.heap[a.block]? = some (.cells ca ta (0, 0))) (hb : w.heap[b.block]? = some (.cells cb tb (0, 0))) :
    (binOp .neq tp (.pointer (some a)) (.pointer (some b))).run P w = .ok (.bool true) w := by
  have h : ∀ d : Nat, (Op.equalIn (d + 1) tp (.pointer (some a)) (.pointer (some b))).run P w = .ok false w := fun d => by
    simp [Op.equalIn, run_underlying hp, sizeOf, typeInfo, hte, hsz, run_sameAddr_other w hne ha hb]
  simp only [binOp]
  simp [Op.equal, Op.maxDepth, h 9999]
end Go.Proofs.YtgdgklhfakplhaaGreatDoor
