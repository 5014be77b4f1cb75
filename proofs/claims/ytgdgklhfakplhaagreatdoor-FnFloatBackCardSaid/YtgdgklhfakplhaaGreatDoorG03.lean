/- Walks and lemmas for the laws of this seat. -/
import Derived.Test.YtgdgklhfakplhaaGreatDoorG01
import Derived.Test.YtgdgklhfakplhaaGreatDoorG02
import Derived.BigQuiet
import Derived.Deep.QuietTactic
import Derived.Deep.LoopGhost
import Derived.Deep.OwnRows
namespace Go.Proofs.YtgdgklhfakplhaaGreatDoor
open Go.RowKit Go.Dig
theorem hid {p : Prop} (h : p) : Hid p := h

/-- A slice that reads as the numbers ds, each of kind k. -/
def Rd (k : IntKind) (w : World) (v : Value) (ds : List Nat) : Prop :=
  ∃ a cap, v = .slice a ds.length cap ∧ ds.length ≤ cap ∧ cap ≤ 9223372036854775807 ∧
    (0 < ds.length → ∃ b off, a = some ⟨b, off, none⟩ ∧ ∀ i, i < ds.length → w.cell? ⟨b, off + i, none⟩ = some (.int k (ds.getD i 0 : Nat)))

/-- As Rd; and its cells lie in a block of the element type e. -/
def Rt (e : TypeId) (k : IntKind) (w : World) (v : Value) (ds : List Nat) : Prop :=
  ∃ a cap, v = .slice a ds.length cap ∧ ds.length ≤ cap ∧ cap ≤ 9223372036854775807 ∧
    (0 < ds.length → ∃ b off, a = some ⟨b, off, none⟩ ∧ (∃ m, w.shape? b = some (e, m)) ∧ ∀ i, i < ds.length → w.cell? ⟨b, off + i, none⟩ = some (.int k (ds.getD i 0 : Nat)))

theorem Rt.rd {e : TypeId} {k : IntKind} {w : World} {v : Value} {ds : List Nat} (h : Rt e k w v ds) : Rd k w v ds := by
  obtain ⟨a, cap, h0, h1, h2, h3⟩ := h
  refine ⟨a, cap, h0, h1, h2, fun hp => ?_⟩
  obtain ⟨b, off, e, _, hc⟩ := h3 hp
  exact ⟨b, off, e, hc⟩

theorem Rd.below {k : IntKind} {w w' : World} {v : Value} {ds : List Nat} (h : Rd k w v ds) {B : Nat} (hb : Below B w w') (hB : w.heap.size ≤ B) : Rd k w' v ds := by
  obtain ⟨a, cap, rfl, h1, h2, h3⟩ := h
  refine ⟨a, cap, rfl, h1, h2, fun hp => ?_⟩
  obtain ⟨b, off, e, hc⟩ := h3 hp
  refine ⟨b, off, e, fun i hi => ?_⟩
  rw [hb.cell (Nat.lt_of_lt_of_le (World.block_lt_of_cell? w _ (hc i hi)) hB)]
  exact hc i hi

theorem shape_below {B : Nat} {w w' : World} (h : Below B w w') {b : Nat} (hb : b < B) : w'.shape? b = w.shape? b := by
  unfold World.shape?; rw [h.block b hb]

theorem shape_alloc (w : World) (c : Array Value) (e : TypeId) : (w.alloc (.cells c e)).shape? w.heap.size = some (e, c.size) := by
  unfold World.shape?
  show (match (w.heap.push (.cells c e))[w.heap.size]? with | some (.cells c elem _) => some (elem, c.size) | _ => none) = _
  rw [Array.getElem?_push_size]
/-- A struct of three cells of the type t is filled behind a call: what was there stays. -/
theorem fill3 {w w1 : World} {c : Array Value} {t : TypeId} (hb : Below (w.heap.size + 1) (w.alloc (.cells c t)) w1) (x0 x1 x2 : Value) :
    Below w.heap.size w (((w1.setCell ⟨w.heap.size, 0, none⟩ x0).setCell ⟨w.heap.size, 1, none⟩ x1).setCell ⟨w.heap.size, 2, none⟩ x2) := by
  have h1 : Below w.heap.size w w1 := ((Below.refl w.heap.size w).alloc (Nat.le_refl _) _).trans (hb.mono (by omega))
  exact ((h1.setCell (Nat.le_refl _) x0).setCell (Nat.le_refl _) x1).setCell (Nat.le_refl _) x2

/-- A block known whole. -/
def Blk (w : World) (b : Nat) (c : Array Value) (e : TypeId) : Prop := w.heap[b]? = some (.cells c e (0, 0))
theorem blk_new (w : World) (c : Array Value) (e : TypeId) : Blk (w.alloc (.cells c e)) w.heap.size c e := by
  unfold Blk
  show (w.heap.push (.cells c e))[w.heap.size]? = _
  rw [Array.getElem?_push_size]
theorem Blk.below {w w' : World} {b B : Nat} {c : Array Value} {e : TypeId} (h : Blk w b c e) (hb : Below B w w') (hB : b < B) : Blk w' b c e := (hb.block b hB).trans h
theorem Blk.lt {w : World} {b : Nat} {c : Array Value} {e : TypeId} (h : Blk w b c e) : b < w.heap.size := by
  unfold Blk at h
  rcases Nat.lt_or_ge b w.heap.size with h' | h'
  · exact h'
  · rw [Array.getElem?_eq_none h'] at h; cases h
theorem Blk.alloc {w : World} {b : Nat} {c : Array Value} {e : TypeId} (h : Blk w b c e) (o : Obj) : Blk (w.alloc o) b c e := h.below ((Below.refl w.heap.size w).alloc (Nat.le_refl _) o) h.lt
theorem Blk.cell {w : World} {b : Nat} {c : Array Value} {e : TypeId} (h : Blk w b c e) (i : Nat) : w.cell? ⟨b, i, none⟩ = c[i]? := by
  unfold Blk at h; simp [World.cell?, h]
theorem Blk.frozen {w : World} {b : Nat} {c : Array Value} {e : TypeId} (h : Blk w b c e) (i : Nat) : w.frozen? ⟨b, i, none⟩ = false := by
  unfold Blk at h; simp [World.frozen?, h]
theorem Blk.shape {w : World} {b : Nat} {c : Array Value} {e : TypeId} (h : Blk w b c e) : w.shape? b = some (e, c.size) := by
  unfold Blk at h; simp [World.shape?, h]
theorem Blk.set {w : World} {b : Nat} {c : Array Value} {e : TypeId} (h : Blk w b c e) (i : Nat) (v : Value) : Blk (w.setCell ⟨b, i, none⟩ v) b (c.setIfInBounds i v) e := by
  unfold Blk at *
  simp only [World.setCell, Array.getElem?_modify, if_true, h, Option.map_some]
  rfl
theorem Blk.three {w : World} {b : Nat} {x0 x1 x2 : Value} {e : TypeId} (h : Blk w b #[x0, x1, x2] e) :
    w.cell? ⟨b, 0, none⟩ = some x0 ∧ w.cell? ⟨b, 1, none⟩ = some x1 ∧ w.cell? ⟨b, 2, none⟩ = some x2 ∧ w.frozen? ⟨b, 0, none⟩ = false ∧ w.frozen? ⟨b, 1, none⟩ = false ∧ w.frozen? ⟨b, 2, none⟩ = false :=
  ⟨h.cell 0, h.cell 1, h.cell 2, h.frozen 0, h.frozen 1, h.frozen 2⟩

theorem shape_lt {w : World} {b : Nat} {x : TypeId × Nat} (h : w.shape? b = some x) : b < w.heap.size := by
  unfold World.shape? at h
  rcases Nat.lt_or_ge b w.heap.size with h' | h'
  · exact h'
  · rw [Array.getElem?_eq_none h'] at h; cases h

theorem Rt.below {e : TypeId} {k : IntKind} {w w' : World} {v : Value} {ds : List Nat} (h : Rt e k w v ds) {B : Nat} (hb : Below B w w') (hB : w.heap.size ≤ B) : Rt e k w' v ds := by
  obtain ⟨a, cap, rfl, h1, h2, h3⟩ := h
  refine ⟨a, cap, rfl, h1, h2, fun hp => ?_⟩
  obtain ⟨b, off, e, ⟨m, hm⟩, hc⟩ := h3 hp
  have hlt := Nat.lt_of_lt_of_le (shape_lt hm) hB
  refine ⟨b, off, e, ⟨m, by rw [shape_below hb hlt]; exact hm⟩, fun i hi => ?_⟩
  rw [hb.cell hlt]
  exact hc i hi

theorem shape_setCell (w : World) (p : Addr) (u : Value) (b : Nat) : (w.setCell p u).shape? b = w.shape? b := by
  unfold World.setCell World.shape?
  simp only [Array.getElem?_modify]
  by_cases hb : p.block = b
  · rw [if_pos hb]
    cases hh : w.heap[b]? with
    | none => rfl
    | some x => cases x <;> simp only [Option.map_some]; split <;> simp
  · rw [if_neg hb]

/-- A store into a block of another element type. -/
theorem Rt.set {e e' : TypeId} {k : IntKind} {w : World} {v : Value} {ds : List Nat} (h : Rt e k w v ds) {p : Addr} (u : Value) {m : Nat} (hs : w.shape? p.block = some (e', m)) (hne : e' ≠ e) : Rt e k (w.setCell p u) v ds := by
  obtain ⟨a, cap, rfl, h1, h2, h3⟩ := h
  refine ⟨a, cap, rfl, h1, h2, fun hp => ?_⟩
  obtain ⟨b, off, eb, ⟨m2, hm⟩, hc⟩ := h3 hp
  refine ⟨b, off, eb, ⟨m2, by rw [shape_setCell]; exact hm⟩, fun i hi => ?_⟩
  rw [World.cell?_setCell_other]
  · exact hc i hi
  · intro e1
    rw [e1] at hs
    rw [hs] at hm
    exact hne (congrArg (fun x => (x.getD (0, 0)).1) hm)

theorem Rd.shape {k : IntKind} {w : World} {v : Value} {ds : List Nat} (h : Rd k w v ds) : ∃ a c, v = .slice a ds.length c := by
  obtain ⟨a, c, rfl, _⟩ := h
  exact ⟨a, c, rfl⟩
theorem Rt.shape {e : TypeId} {k : IntKind} {w : World} {v : Value} {ds : List Nat} (h : Rt e k w v ds) : ∃ a c, v = .slice a ds.length c := h.rd.shape
theorem Rt.take {e : TypeId} {k : IntKind} {w : World} {a : Option Addr} {n cap : Nat} {ds : List Nat} (h : Rt e k w (.slice a n cap) ds) {m : Nat} (hm : m ≤ n) : Rt e k w (.slice a m cap) (ds.take m) := by
  obtain ⟨a', cap', e1, h1, h2, h3⟩ := h
  simp only [Value.slice.injEq] at e1
  obtain ⟨rfl, rfl, rfl⟩ := e1
  refine ⟨a, cap, by rw [List.length_take, Nat.min_eq_left hm], by rw [List.length_take]; omega, h2, fun hp => ?_⟩
  rw [List.length_take] at hp
  obtain ⟨b2, off2, e2, hsh, hb2⟩ := h3 (by omega)
  refine ⟨b2, off2, e2, hsh, fun i hi => ?_⟩
  rw [List.length_take] at hi
  rw [hb2 i (by omega)]
  congr 3
  simp only [List.getD_eq_getElem?_getD]
  rw [List.getElem?_take_of_lt (by omega)]

theorem Rd.nil (k : IntKind) (w : World) : Rd k w (.slice none 0 0) [] := ⟨none, 0, rfl, by simp, by omega, fun h => absurd h (by simp)⟩
theorem Rt.nil (e : TypeId) (k : IntKind) (w : World) : Rt e k w (.slice none 0 0) [] := ⟨none, 0, rfl, by simp, by omega, fun h => absurd h (by simp)⟩

/-- A struct of three cells of the type t is filled: what lies in blocks of another element type stays. -/
theorem Rt.set3 {e t : TypeId} {k : IntKind} {w1 : World} {v : Value} {ds : List Nat} (h : Rt e k w1 v ds) {b : Nat} {c : Array Value} (hB : Blk w1 b c t) (hne : t ≠ e) (x0 x1 x2 : Value) :
    Rt e k (((w1.setCell ⟨b, 0, none⟩ x0).setCell ⟨b, 1, none⟩ x1).setCell ⟨b, 2, none⟩ x2) v ds := by
  have hs := hB.shape
  have h1 := h.set (p := ⟨b, 0, none⟩) x0 hs hne
  have hs1 : (w1.setCell ⟨b, 0, none⟩ x0).shape? b = some (t, c.size) := by rw [shape_setCell]; exact hs
  have h2 := h1.set (p := ⟨b, 1, none⟩) x1 hs1 hne
  exact h2.set (p := ⟨b, 2, none⟩) x2 (by rw [shape_setCell]; exact hs1) hne
theorem below_set3 {B : Nat} {w w1 : World} (h : Below B w w1) {b : Nat} (hB : B ≤ b) (x0 x1 x2 : Value) :
    Below B w (((w1.setCell ⟨b, 0, none⟩ x0).setCell ⟨b, 1, none⟩ x1).setCell ⟨b, 2, none⟩ x2) := ((h.setCell hB x0).setCell hB x1).setCell hB x2

theorem Rt.fill3 {e t : TypeId} {k : IntKind} {w w1 : World} {v : Value} {ds : List Nat} (h : Rt e k w1 v ds) {c : Array Value} (hb : Below (w.heap.size + 1) (w.alloc (.cells c t)) w1) (hne : t ≠ e) (x0 x1 x2 : Value) :
    Rt e k (((w1.setCell ⟨w.heap.size, 0, none⟩ x0).setCell ⟨w.heap.size, 1, none⟩ x1).setCell ⟨w.heap.size, 2, none⟩ x2) v ds := by
  have hs : w1.shape? w.heap.size = some (t, c.size) := by rw [shape_below hb (by omega), shape_alloc]
  have h1 := h.set (p := ⟨w.heap.size, 0, none⟩) x0 hs hne
  have hs1 : (w1.setCell ⟨w.heap.size, 0, none⟩ x0).shape? w.heap.size = some (t, c.size) := by rw [shape_setCell]; exact hs
  have h2 := h1.set (p := ⟨w.heap.size, 1, none⟩) x1 hs1 hne
  exact h2.set (p := ⟨w.heap.size, 2, none⟩) x2 (by rw [shape_setCell]; exact hs1) hne

/-- The digits as cells. -/
def cs (k : IntKind) (ds : List Nat) : List Value := ds.map fun d => .int k (d : Nat)
theorem cs_snoc (k : IntKind) (ds : List Nat) (d : Nat) : cs k ds ++ [.int k (d : Nat)] = cs k (ds ++ [d]) := by simp [cs]
theorem cs_length (k : IntKind) (ds : List Nat) : (cs k ds).length = ds.length := by simp [cs]
theorem cs_getElem? (k : IntKind) (ds : List Nat) (i : Nat) (h : i < ds.length) : (cs k ds).toArray[i]? = some (.int k (ds.getD i 0 : Nat)) := by
  simp [cs, List.getElem?_eq_getElem h]
theorem cs_set (k : IntKind) (ds : List Nat) (i d : Nat) : (cs k ds).toArray.setIfInBounds i (.int k (d : Int)) = (cs k (ds.set i d)).toArray := by
  simp [cs]
theorem cs_zeros (k : IntKind) (n : Nat) : madeCells #[.int k 0] n = (cs k (List.replicate n 0)).toArray := by
  apply Array.ext_getElem?
  intro i
  by_cases hi : i < n
  · simp [madeCells, cs, hi, Nat.mod_one]
  · simp [madeCells, cs, hi]
/-- A block known whole, of numbers. -/
abbrev BlkN (k : IntKind) (e : TypeId) (w : World) (b : Nat) (ds : List Nat) : Prop := Blk w b (cs k ds).toArray e
theorem BlkN.at {k : IntKind} {e : TypeId} {w : World} {b : Nat} {ds : List Nat} (h : BlkN k e w b ds) {i : Nat} (hi : i < ds.length) : w.cell? ⟨b, i, none⟩ = some (.int k (ds.getD i 0 : Nat)) := by
  rw [h.cell, cs_getElem? k ds i hi]
theorem BlkN.put {k : IntKind} {e : TypeId} {w : World} {b : Nat} {ds : List Nat} (h : BlkN k e w b ds) (i d : Nat) : BlkN k e (w.setCell ⟨b, i, none⟩ (.int k (d : Int))) b (ds.set i d) := by
  have := Blk.set h i (.int k (d : Int))
  rwa [cs_set] at this
theorem BlkN.rt {k : IntKind} {e : TypeId} {w : World} {b : Nat} {ds : List Nat} (h : BlkN k e w b ds) {cap : Nat} (h1 : ds.length ≤ cap) (h2 : cap ≤ 9223372036854775807) : Rt e k w (.slice (some ⟨b, 0, none⟩) ds.length cap) ds :=
  ⟨_, cap, rfl, h1, h2, fun _ => ⟨b, 0, rfl, ⟨_, h.shape⟩, fun i hi => by rw [Nat.zero_add]; exact h.at hi⟩⟩
theorem blkN_made (k : IntKind) (e : TypeId) (w : World) (n : Nat) : BlkN k e (w.alloc (.cells (madeCells #[.int k 0] n) e)) w.heap.size (List.replicate n 0) := by
  rw [cs_zeros]; exact blk_new w _ e

/-- A row of the call's own reads as its cells. -/
theorem own_rd {w : World} {base e : Nat} {k : IntKind} {v : Value} {n : Nat} {ds : List Nat} (h : w.ownsRow base e 1 v n (cs k ds)) : Rt e k w v ds := by
  obtain ⟨hl, h⟩ := h
  rw [cs_length, Nat.mul_one] at hl
  subst hl
  rcases h with ⟨rfl, h0⟩ | ⟨g, cap, cur, rfl, _, hg, hnc, hcap, hsz, htk⟩
  · have : ds = [] := List.eq_nil_of_length_eq_zero h0
    subst this
    exact Rt.nil e k w
  · refine ⟨_, cap, rfl, hnc, by unfold maxLen at hcap; omega, fun _ => ⟨g, 0, rfl, ⟨cur.size, by simp [World.shape?, hg]⟩, fun i hi => ?_⟩⟩
    have e1 : w.cell? ⟨g, 0 + i, none⟩ = cur[i]? := by simp [World.cell?, hg]
    rw [e1]
    have e2 : cur[i]? = (cs k ds)[i]? := by
      rw [← htk, List.getElem?_take_of_lt (by omega)]; simp
    rw [e2]
    simp [cs, List.getElem?_eq_getElem hi]
/-- A new row that is empty is owned. -/
theorem own_empty (w : World) (e : Nat) {base : Nat} (h : base ≤ w.heap.size) : (w.alloc (.cells #[] e)).ownsRow base e 1 (.slice (some ⟨w.heap.size, 0, none⟩) 0 0) 0 [] := by
  refine ⟨rfl, .inr ⟨w.heap.size, 0, #[], rfl, h, by show (w.heap.push _)[w.heap.size]? = _; simp, Nat.le_refl _, by unfold maxLen; omega, rfl, rfl⟩⟩

theorem bcell {W w1 : World} (hb : Below W.heap.size W w1) : (∀ b o, b < W.heap.size → w1.cell? ⟨b, o, none⟩ = W.cell? ⟨b, o, none⟩) ∧ (∀ b o, b < W.heap.size → w1.frozen? ⟨b, o, none⟩ = W.frozen? ⟨b, o, none⟩) :=
  ⟨fun b o h => hb.cell (p := ⟨b, o, none⟩) h, fun b o h => hb.frozen (p := ⟨b, o, none⟩) h⟩
/-- The slice of a natural number of the reference, by its digits to 65536. -/
abbrev Nt (w : World) (v : Value) (n : Nat) : Prop := Rt 3 .i64 w v (dg 65536 n)

theorem dgl (n : Nat) : ∀ d ∈ dg 65536 n, d < 65536 := dg_lt (by omega) n
theorem dg_len_pos (n : Nat) : decide (0 < (dg 65536 n).length) = decide (n ≠ 0) := by
  by_cases h : n = 0
  · subst h; rw [dg_zero]; rfl
  · rw [dg_pos (by omega) h]; simp [h]
theorem getD_lt {l : List Nat} {b : Nat} (hb : 0 < b) (h : ∀ d ∈ l, d < b) (i : Nat) : l.getD i 0 < b := by
  rcases Nat.lt_or_ge i l.length with hi | hi
  · rw [List.getD_eq_getElem?_getD, List.getElem?_eq_getElem hi]; exact h _ (List.getElem_mem hi)
  · rw [List.getD_eq_getElem?_getD, List.getElem?_eq_none hi]; simpa using hb

theorem own_base {w : World} {base e : Nat} {v : Value} {n : Nat} {xs : List Value} (h : w.ownsRow base e 1 v n xs) : ∀ k, v.ownBlock = some k → base ≤ k := by
  intro k hk
  rcases h.2 with ⟨rfl, _⟩ | ⟨g, cap, cur, rfl, hg, _⟩
  · cases hk
  · simp only [Value.ownBlock, Option.some.injEq] at hk; omega

/-- 'out = append(out, d)', one number, out the call's own. -/
theorem app1 {P : Program} {ops : Array Oper} {rest : List Oper} {o : Oper} {a : Act} {Q : Exit → Act → World → Prop} {w : World} (hgd : o.guard = none) (s x : Operand) (t e : TypeId)
    (ho : o.op = .call { callee := .builtin .append, args := #[s, x], argTypes := #[t, t] }) (k : IntKind) (bytes : Nat) (ht : P.underlying t = some (.slice e))
    (hinfo : (P.info? e).map (fun i => (i.zero, i.size, i.bytes)) = some (some (.int k 0), 1, bytes)) (hby : bytes ≤ 8)
    (base : Nat) (wB : World) (v : Value) (ds : List Nat) (d : Int) (d' : Nat) (hd : d = (d' : Int)) (hs : a.eval s = v) (hx : a.eval x = .slice (some ⟨w.heap.size, 0, none⟩) 1 1)
    (hown : w.ownsRow base e 1 v ds.length (cs k ds)) (hb : Below base wB w) (hbase : base ≤ w.heap.size) (hlen : ds.length < 1000000000)
    (h : ∀ v' w', w'.ownsRow base e 1 v' (ds ++ [d']).length (cs k (ds ++ [d'])) → Below base wB w' → v' ≠ .slice none 0 0 → wpList P ops Q rest (a.put o.dst v') w') :
    wpList P ops Q (o :: rest) a (w.alloc (.cells #[.int k d] e)) := by
  subst hd
  obtain ⟨i0, hi, hz0, hz1, hz2⟩ := info_parts hinfo
  have hc : (w.alloc (.cells #[.int k (d' : Int)] e)).cell? ⟨w.heap.size, 0, none⟩ = some (.int k (d' : Int)) := by rw [World.cell?_alloc_new]; rfl
  refine wpList_append_own _ hgd s x t ho base e i0 (.int k 0) 1 bytes ht hi hz0 hz1 hz2 rfl (by decide) v ds.length (cs k ds) hs (hown.alloc _) ⟨w.heap.size, 0, none⟩ 1 1 [.int k (d' : Int)] hx rfl ?_ ?_ ?_ ?_ ?_ ?_
  · intro j u hj
    match j, hj with
    | 0, hj => simp at hj; subst hj; exact hc
  · intro u hu; simp at hu; subst hu; rfl
  · unfold maxLen; omega
  · calc (ds.length + 1) * bytes ≤ 1000000000 * 8 := Nat.mul_le_mul (by omega) hby
      _ ≤ _ := by omega
  · simp; omega
  · intro v' w' h1 h2 h3
    refine h v' w' ?_ ?_ ?_
    · rw [cs_snoc] at h1; simpa using h1
    · exact (hb.alloc hbase _).grown h2 (by simp; omega) (own_base hown)
    · intro e1; have := h3.1 e1; omega
theorem _root_.Go.RowKit.Below.drewN {B : Nat} {a w : World} (h : Below B a w) (n : Nat) : Below B a (w.drewN n) := ⟨h.os, h.tape, h.output, h.size, h.block⟩
theorem below_drewN' {B : Nat} {w : World} (n : Nat) : Below B w (w.drewN n) := (Below.refl B w).drewN n
end Go.Proofs.YtgdgklhfakplhaaGreatDoor
namespace Go.Proofs.YtgdgklhfakplhaaGreatDoor
open Go.RowKit Go.Dig
set_option maxRecDepth 100000
/-- A slice's length, as a number. -/
def lenOf : Value → Nat | .slice _ m _ => m | _ => 0
set_option maxHeartbeats 400000 in
theorem trim_any (v : Value) (ds : List Nat) (w : World) (h : Rt 3 .i64 w v ds) :
    Calls Tryz.prog 58 #[v] w fun e w' => ∃ v', e = .returned v' ∧ Rt 3 .i64 w v' (trim ds) ∧ w = w' := by
  have HR := hid h
  obtain ⟨a, cap, rfl, hn, hcap, hc⟩ := h
  have HC := hid hc
  clear hc
  go_enter Tryz.func58, Tryz.ntmps58
  go_wp2_with fail
  go_loop [0] (fun v => ∃ m : Nat, m ≤ ds.length ∧ v = .slice a m cap ∧ Hid (∀ i, m ≤ i → i < ds.length → ds.getD i 0 = 0)) (fun v => lenOf v)
  case atStart => exact ⟨ds.length, Nat.le_refl _, rfl, fun i h1 h2 => by omega⟩
  case round =>
    obtain ⟨m, hm, rfl, hz⟩ := hrel
    rcases Nat.eq_zero_or_pos m with h0 | h0
    · subst h0
      go_wp2_with fail
      go_ret
      have e := trim_take (Nat.zero_le _) hz.out (fun h => absurd h (by omega))
      exact ⟨_, rfl, by rw [e]; exact HR.out.take (Nat.zero_le _), rfl⟩
    · obtain ⟨k, rfl⟩ : ∃ k, m = k + 1 := ⟨m - 1, by omega⟩
      obtain ⟨b, off, rfl, _, hb⟩ := HC.out (by omega)
      have hk := hb k (by omega)
      clear hb
      by_cases hf : ds.getD k 0 = 0
      · rw [hf] at hk
        have HF := hid hf
        clear hf
        go_wp2_with fail
        go_round
        case rel =>
          refine ⟨k, by omega, rfl, fun i h1 h2 => ?_⟩
          rcases Nat.eq_or_lt_of_le h1 with rfl | h3
          · exact HF.out
          · exact hz.out i h3 h2
        case measure => simp [lenOf]
      · have hf' : (((ds.getD k 0 : Nat) : Int) == 0) = false := by simp; simpa using hf
        generalize hg : ds.getD k 0 = d at hk hf'
        have HF := hid hf
        have HG := hid hg
        clear hf hg
        go_wp2_with fail
        go_ret
        have e := trim_take hm hz.out (fun _ => HF.out)
        exact ⟨_, rfl, by rw [e]; exact HR.out.take hm, rfl⟩
end Go.Proofs.YtgdgklhfakplhaaGreatDoor
namespace Go.Proofs.YtgdgklhfakplhaaGreatDoor
open Go.RowKit Go.Dig
set_option maxRecDepth 100000
theorem info3 : (Tryz.prog.info? 3).map (fun i => (i.zero, i.size, i.bytes)) = some (some (.int .i64 0), 1, 8) := by kernel_rfl
set_option maxHeartbeats 400000 in
theorem small_any (n : Nat) (w : World) (hn : n ≤ 9223372036854775807) :
    Calls Tryz.prog 30 #[.int .i64 n] w fun e w' => ∃ v', e = .returned v' ∧ Nt w' v' n ∧ Below w.heap.size w w' := by
  have hlen : (dg 65536 n).length ≤ 4 := dg_length_le (by omega) (by omega)
  have HL := hid hlen
  clear hlen
  go_enter Tryz.func30, Tryz.ntmps30
  go_wp2_with fail
  go_loopw [3, 0] (fun v x wr => ∃ (ds : List Nat) (m : Nat), x = .int .i64 m ∧ m ≤ 9223372036854775807 ∧ wr.ownsRow w.heap.size 3 1 v ds.length (cs .i64 ds) ∧ Hid (dg 65536 n = ds ++ dg 65536 m) ∧ Below w.heap.size w wr) (fun _ x _ => (intOf x).toNat)
  case atStart => exact ⟨[], n, rfl, hn, own_empty w 3 (Nat.le_refl _), rfl, (Below.refl _ _).alloc (Nat.le_refl _) _⟩
  case round =>
    obtain ⟨ds, m, rfl, hm, hown, hd, hb⟩ := hrel
    have hbs := hb.size
    rcases Nat.eq_zero_or_pos m with h0 | h0
    · subst h0
      go_wp2_with fail
      go_ret
      have e : dg 65536 n = ds := by rw [hd.out, dg_zero, List.append_nil]
      exact ⟨_, rfl, by unfold Nt; rw [e]; exact own_rd hown, hb⟩
    · have hd2 : dg 65536 n = (ds ++ [m % 65536]) ++ dg 65536 (m / 65536) := by rw [hd.out, dg_pos (by omega) (by omega)]; simp
      have HD := hid hd2
      have hl : ds.length + 1 ≤ 4 := by have := HL.out; rw [hd2] at this; simp at this; omega
      clear hd2 hd
      go_wp2_with (at_builtin; refine app1 rfl _ _ 29 3 rfl .i64 8 Tryz.underlying29 info3 (by decide) w.heap.size w _ ds _ (m % 65536) (by omega) rfl rfl hown hb (by omega) (by omega) ?_; intro v' w' hown' hb' _)
      go_roundw
      case rel => exact ⟨ds ++ [m % 65536], m / 65536, by go_num, by omega, hown', HD, hb'⟩
      case measure => simp [intOf]; omega
end Go.Proofs.YtgdgklhfakplhaaGreatDoor
