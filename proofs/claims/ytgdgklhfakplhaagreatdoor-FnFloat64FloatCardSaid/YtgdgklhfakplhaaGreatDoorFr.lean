/- The end of every law: it returned true and turned nothing that was there; conditions in each statement. -/
import Derived.WalkKit
import Derived.ProofKit
import Derived.LaidMore
import Derived.OpenShut
import Derived.Stop.Joined
import Derived.ChangeOld
import Derived.Below
import Derived.WalkSmall
namespace Go.Proofs.YtgdgklhfakplhaaGreatDoor
open Go.ChangeShapes Go.WideShapes Go.ChangeAt Go.WideMaps Go.WideElems Go.RowKit
variable {H : Type} {enc : TypeId × Value → H} {P : Program}

/-- What was read of values is read behind a call that turned nothing that was there. -/
theorem trodAll_below (hl : laidOutB P = true) {W W' : World} (hb : Below W.heap.size W W') :
    ∀ {ts : List TypeId} {vs : List Value} {ds : List (DataW H)} {ps : List MemPlace}, DataW.TrodAll enc P W 0 (fun _ => true) true ts vs ds ps → (∀ t ∈ ts, P.readableRec t = true ∧ t < P.types.size) → (∀ x ∈ ps, x.block < W.heap.size) →
    DataW.TrodAll enc P W' 0 (fun b => decide (b < W.heap.size)) true ts vs ds ps
  | [], vs, ds, ps, h, _, _ => by
    obtain ⟨rfl, rfl, rfl⟩ := trodAll_nil h
    exact trodAll_mk0
  | t :: ts, vs, ds, ps, h, hr, hlt => by
    obtain ⟨v, vs', d, ds', p, q, rfl, rfl, rfl, h1, h2⟩ := trodAll_cons h
    have ht := hr t (by simp)
    exact trodAll_cons_mk (Below.trod hl ht.1 ht.2 h1 hb fun x hx => hlt x (by simp [hx]))
      (trodAll_below hl hb h2 (fun u hu => hr u (List.mem_cons_of_mem _ hu)) fun x hx => hlt x (by simp [hx]))

/-- Likewise of named variables. -/
theorem trodVars_below (hl : laidOutB P = true) {W W' : World} (hb : Below W.heap.size W W') :
    ∀ {ns : List String} {ds : List (DataW H)} {ps : List MemPlace}, DataW.TrodVars enc P W (fun _ => true) ns ds ps → (∀ n ∈ ns, ∀ g t, P.globalNamed n = some g → (P.globals[g]?).map (·.type) = some t → P.readableRec t = true ∧ t < P.types.size) → (∀ x ∈ ps, x.block < W.heap.size) →
    DataW.TrodVars enc P W' (fun b => decide (b < W.heap.size)) ns ds ps
  | [], ds, ps, h, _, _ => by
    obtain ⟨rfl, rfl⟩ := trodVars_none h
    exact rfl
  | n :: ns, [], ps, h, _, _ => by simp [DataW.TrodVars] at h
  | n :: ns, d :: ds, ps, h, hr, hlt => by
    obtain ⟨g, t, cs, fuel, p, q, h1, h2, h3, h4, hs, rfl⟩ := h
    have ht := hr n (by simp) g t h1 h2
    have hg : g < W.heap.size := by
      unfold World.var? at h3
      simp only [h1, Option.bind_some] at h3
      rcases Nat.lt_or_ge g W.heap.size with h | h
      · exact h
      · rw [Array.getElem?_eq_none h] at h3; cases h3
    refine ⟨g, t, cs, fuel, p, q, h1, h2, var?_below hb h1 hg h3, ?_, trodVars_below hl hb hs (fun m hm => hr m (List.mem_cons_of_mem _ hm)) (fun x hx => hlt x (by simp [hx])), rfl⟩
    exact DataW.trod_stays (kids_book hl ht.1) (book_sized ht.1) (fun h => by cases h) ⟨ht.2, book_self t⟩ h4 (fun x hx => hb.same (hlt x (by simp [hx]))) (fun x hx => by simpa using hlt x (by simp [hx]))

/-- THE END OF EVERY LAW: it returned true and turned nothing that was there. -/
theorem law_post {s : ChangeSpec} {f : Func} (hl : laidOutB P = true) {W W' : World} {args : Array Value} {ds gs : List (DataW H)} {before : List MemPlace}
    (hW : DataW.Whole enc P f.params.toList s.vars false W args.toList ds gs before) (hb : Below W.heap.size W W')
    (hp : ∀ t ∈ f.params.toList, P.readableRec t = true ∧ t < P.types.size)
    (hv : ∀ n ∈ s.vars, ∀ g t, P.globalNamed n = some g → (P.globals[g]?).map (·.type) = some t → P.readableRec t = true ∧ t < P.types.size)
    (hres : f.resultTypes = #[4]) (hu : P.underlying 4 = some .bool)
    (hs : s.fn H (ds ++ gs) = { results := [.lit (.bool true)], args := ds, vars := gs }) :
    s.post enc P f false true false false W args (.bool true) W' := by
  have hW' := hW
  obtain ⟨p, q, hA, hV, rfl, _, _⟩ := hW
  refine ⟨ds, gs, _, [], p, q, hW', ?_, ?_, ?_, hb.frame _, fun h => by cases h⟩
  · rw [hs, hres]
    exact trodAll_mk1 (shut_bool hu true)
  · rw [hs]
    exact trodAll_below hl hb hA hp (DataW.TrodAll.lt hA)
  · rw [hs]
    exact trodVars_below hl hb hV hv (DataW.TrodVars.lt hV)
end Go.Proofs.YtgdgklhfakplhaaGreatDoor
