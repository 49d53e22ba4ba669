/- A new resource: the chain of worlds, outside the walk. -/
import Derived.Test.Qxb6601393aSteps
namespace Go.Proofs.Qxb6601393a.Smp
open Go.RowKit

/-- The three blocks that 'add' lays for a new resource, and the one for the path's list. -/
def oA (c : Nat) : Obj := .cells #[.pointer (some ⟨c, 0, none⟩)] 42
def oR (n : Nat) (a : ByteArray) (g : Nat) : Obj := .cells #[.int .i64 (n : Nat), .string a, .slice (some ⟨g, 0, none⟩) 1 1] 49
def oP (b : Nat) : Obj := .cells #[.pointer (some ⟨b, 0, none⟩)] 46

section
variable {w : World} {B sb : Nat} {R : List Rec} {K : List ByteArray} {vr : Value} {mb : Nat} {L : ByteArray → Value} {rb : Nat → Nat} {sv : Nat → Value}

theorem alloc3 (w : World) (x y z : Obj) : (∀ b, b < w.heap.size → (((w.alloc x).alloc y).alloc z).heap[b]? = w.heap[b]?) ∧ (((w.alloc x).alloc y).alloc z).heap[w.heap.size]? = some x ∧
    (((w.alloc x).alloc y).alloc z).heap[w.heap.size + 1]? = some y ∧ (((w.alloc x).alloc y).alloc z).heap.size = w.heap.size + 3 := by
  have s1 : (w.alloc x).heap.size = w.heap.size + 1 := World.size_alloc w x
  have s2 : ((w.alloc x).alloc y).heap.size = w.heap.size + 2 := by rw [World.size_alloc, s1]
  refine ⟨fun b hb => ?_, ?_, ?_, by rw [World.size_alloc, s2]⟩
  · rw [Below.heap_alloc _ z b (by omega), Below.heap_alloc _ y b (by omega), Below.heap_alloc _ x b hb]
  · rw [Below.heap_alloc _ z _ (by omega), Below.heap_alloc _ y _ (by omega)]
    exact heap_alloc_new w x
  · rw [Below.heap_alloc _ z _ (by omega)]
    have := heap_alloc_new (w.alloc x) y
    rwa [s1] at this

/-- What is old behind the append to the resources. -/
theorem after1 {w1 : World} {x y z : Obj} {v : Value} (hg : (((w.alloc x).alloc y).alloc z).grownBy w1 v.ownBlock) : ∀ b, b < w.heap.size → some b ≠ v.ownBlock → w1.heap[b]? = w.heap[b]? := by
  obtain ⟨a1, _, _, a4⟩ := alloc3 w x y z
  intro b hb hne
  rw [hg.block b (by omega) hne, a1 b hb]
theorem sb_after {w1 : World} {x y z : Obj} (S : Samp w B sb R K vr mb L rb sv) (hg : (((w.alloc x).alloc y).alloc z).grownBy w1 vr.ownBlock) : w1.heap[sb]? = some (.cells #[vr, .map (some mb)] 40 (0, 0)) := by
  rw [after1 hg sb (lt_of S.hs) ?_]
  · exact S.hs
  · intro e
    obtain ⟨cur, hh⟩ := owns_heap S.row e.symm
    exact kinds S.hs hh (by decide) rfl
theorem set0 {w1 : World} {sb mb : Nat} {x y : Value} (h : w1.heap[sb]? = some (.cells #[x, .map (some mb)] 40 (0, 0))) : (w1.setCell ⟨sb, 0, none⟩ y).heap[sb]? = some (.cells #[y, .map (some mb)] 40 (0, 0)) :=
  (heap_setCell_same w1 sb 0 _ 40 y h).trans rfl
theorem size_setCell (w1 : World) (a : Addr) (y : Value) : (w1.setCell a y).heap.size = w1.heap.size := by simp [World.setCell]
/-- The map and the path's list behind the store of the resources. -/
theorem map_after {w1 : World} {x y z : Obj} {u : Value} {p : ByteArray} (S : Samp w B sb R K vr mb L rb sv) (hg : (((w.alloc x).alloc y).alloc z).grownBy w1 vr.ownBlock) :
    MapIs (w1.setCell ⟨sb, 0, none⟩ u) mb L K ∧ (w1.setCell ⟨sb, 0, none⟩ u).ownsRow B 46 1 (L p) (idx R p).length ((idx R p).map fun k => ptr (rb k)) := by
  obtain ⟨es, cl, hm, _⟩ := S.mp.is
  constructor
  · refine S.mp.of_block ?_
    rw [Below.heap_setCell _ _ _ _ (fun e => kindm S.hs hm (by simpa using e.symm)), after1 hg mb S.mp.lt ?_]
    intro e
    obtain ⟨cur, hh⟩ := owns_heap S.row e.symm
    exact kindm hh hm rfl
  · refine owns_keep (S.vals p) fun g hgg => ?_
    obtain ⟨cur, hh⟩ := owns_heap (S.vals p) hgg
    rw [Below.heap_setCell _ _ _ _ (fun e => kinds hh S.hs (by decide) (by simpa using e)), after1 hg g (lt_of hh) ?_]
    intro e
    rcases S.lvr p with h | h
    · rw [h] at hgg; cases hgg
    · exact h (by rw [hgg, e])

theorem fresh_fin {w1 W4 w2 w3 : World} {p a : ByteArray} {c t g1 g2 cap1 cap2 : Nat} {o : Array Value} (S : Samp w B sb R K vr mb L rb sv) (hB : B ≤ w.heap.size) (hf : findK R p a = none)
    (hc : w.heap[c]? = some (.cells o 45 (0, 0))) (ho : o[0]? = some (.int .i64 (t : Nat)))
    (hown1 : w1.ownsRow B 46 1 (.slice (some ⟨g1, 0, none⟩) (R.length + 1) cap1) (R.length + 1) (((List.range R.length).map fun k => ptr (rb k)) ++ [.pointer (some ⟨w.heap.size + 1, 0, none⟩)]))
    (hg1 : (((w.alloc (oA c)).alloc (oR R.length a w.heap.size)).alloc (oP (w.heap.size + 1))).grownBy w1 vr.ownBlock) (hat1 : vr.ownBlock = some g1 ∨ g1 = w.heap.size + 3)
    (hW4 : W4 = w1.setCell ⟨sb, 0, none⟩ (.slice (some ⟨g1, 0, none⟩) (R.length + 1) cap1))
    (hown2 : w2.ownsRow B 46 1 (.slice (some ⟨g2, 0, none⟩) ((idx R p).length + 1) cap2) ((idx R p).length + 1) (((idx R p).map fun k => ptr (rb k)) ++ [.pointer (some ⟨w.heap.size + 1, 0, none⟩)]))
    (hg2 : (W4.alloc (oP (w.heap.size + 1))).grownBy w2 (L p).ownBlock) (hat2 : (L p).ownBlock = some g2 ∨ g2 = W4.heap.size + 1)
    (hmp3 : MapIs w3 mb (putL L p (.slice (some ⟨g2, 0, none⟩) ((idx R p).length + 1) cap2)) (putK K p)) (hg3 : w2.grownBy w3 (some mb)) :
    (∃ vr' L' rb' sv', Samp w3 B sb (addR R p a t) (addK R K p a) vr' mb L' rb' sv') ∧ Below B w w3 := by
  obtain ⟨a1, a2, a3, a4⟩ := alloc3 w (oA c) (oR R.length a w.heap.size) (oP (w.heap.size + 1))
  obtain ⟨es, cl, hm, _⟩ := S.mp.is
  have hsbl := lt_of S.hs
  have hmbl := S.mp.lt
  have vrl : ∀ g, vr.ownBlock = some g → g < w.heap.size := fun g hg => by obtain ⟨cur, hh⟩ := owns_heap S.row hg; exact lt_of hh
  have lpl : ∀ g, (L p).ownBlock = some g → g < w.heap.size := fun g hg => by obtain ⟨cur, hh⟩ := owns_heap (S.vals p) hg; exact lt_of hh
  have z1 := hg1.size
  have z4 : W4.heap.size = w1.heap.size := by rw [hW4, size_setCell]
  have z2 := hg2.size
  rw [World.size_alloc] at z2
  have z3 := hg3.size
  -- the chain, block by block
  have e1 : ∀ b, b < w.heap.size + 3 → some b ≠ vr.ownBlock → w1.heap[b]? = (((w.alloc (oA c)).alloc (oR R.length a w.heap.size)).alloc (oP (w.heap.size + 1))).heap[b]? := fun b hb hne => hg1.block b (by omega) hne
  have e4 : ∀ b, b ≠ sb → W4.heap[b]? = w1.heap[b]? := fun b hb => by rw [hW4]; exact Below.heap_setCell _ _ _ _ hb
  have e2 : ∀ b, b < W4.heap.size → some b ≠ (L p).ownBlock → w2.heap[b]? = W4.heap[b]? := fun b hb hne => by
    rw [hg2.block b (by rw [World.size_alloc]; omega) hne, Below.heap_alloc _ _ _ hb]
  have e3 : ∀ b, b < w2.heap.size → b ≠ mb → w3.heap[b]? = w2.heap[b]? := fun b hb hne => hg3.block b hb (fun h => hne (Option.some.inj h))
  have old : ∀ b, b < w.heap.size → some b ≠ vr.ownBlock → b ≠ sb → some b ≠ (L p).ownBlock → b ≠ mb → w3.heap[b]? = w.heap[b]? := fun b hb h1 h2 h3 h4 => by
    rw [e3 b (by omega) h4, e2 b (by omega) h3, e4 b h2, e1 b (by omega) h1, a1 b hb]
  have newA : w3.heap[w.heap.size]? = some (oA c) := by
    rw [e3 _ (by omega) (by omega), e2 _ (by omega) (fun h => by have := lpl _ h.symm; omega), e4 _ (by omega), e1 _ (by omega) (fun h => by have := vrl _ h.symm; omega), a2]
  have newR : w3.heap[w.heap.size + 1]? = some (oR R.length a w.heap.size) := by
    rw [e3 _ (by omega) (by omega), e2 _ (by omega) (fun h => by have := lpl _ h.symm; omega), e4 _ (by omega), e1 _ (by omega) (fun h => by have := vrl _ h.symm; omega), a3]
  have hsb1 := sb_after S hg1
  have hsb4 : W4.heap[sb]? = some (.cells #[.slice (some ⟨g1, 0, none⟩) (R.length + 1) cap1, .map (some mb)] 40 (0, 0)) := by rw [hW4]; exact set0 hsb1
  have hsb3 : w3.heap[sb]? = some (.cells #[.slice (some ⟨g1, 0, none⟩) (R.length + 1) cap1, .map (some mb)] 40 (0, 0)) := by
    rw [e3 sb (by omega) (kindm S.hs hm), e2 sb (by omega) ?_]
    · exact hsb4
    · intro h
      obtain ⟨cur, hh⟩ := owns_heap (S.vals p) h.symm
      exact kinds S.hs hh (by decide) rfl
  have hmp2 : ∃ es' cl', w2.heap[mb]? = some (.map es' cl') := by
    refine ⟨es, cl, ?_⟩
    rw [e2 mb (by omega) ?_, e4 mb (fun h => kindm S.hs hm h.symm), e1 mb (by omega) ?_, a1 mb hmbl]
    · exact hm
    · intro h
      obtain ⟨cur, hh⟩ := owns_heap S.row h.symm
      exact kindm hh hm rfl
    · intro h
      obtain ⟨cur, hh⟩ := owns_heap (S.vals p) h.symm
      exact kindm hh hm rfl
  obtain ⟨es2, cl2, hm2⟩ := hmp2
  obtain ⟨cur1, hcur1⟩ := owns_heap hown1 (g := g1) rfl
  have g1lt := lt_of hcur1
  have hlvr : some g1 ≠ (L p).ownBlock := by
    intro h
    rcases hat1 with h1 | h1
    · rcases S.lvr p with h2 | h2
      · rw [h2] at h; cases h
      · exact h2 (by rw [h1, h])
    · have := lpl g1 h.symm
      omega
  have row3 : w3.ownsRow B 46 1 (.slice (some ⟨g1, 0, none⟩) (R.length + 1) cap1) (R.length + 1) (((List.range R.length).map fun k => ptr (rb k)) ++ [ptr (w.heap.size + 1)]) := by
    refine owns_keep hown1 fun g hg => ?_
    have hgg : g = g1 := (Option.some.inj hg).symm
    subst hgg
    have h4 := e4 g (kinds hcur1 hsb1 (by decide))
    have h2 := e2 g (by omega) hlvr
    rw [e3 g (by omega) (kindm (show w2.heap[g]? = _ from (h2.trans h4).trans hcur1) hm2), h2, h4]
  have v3 : w3.ownsRow B 46 1 (.slice (some ⟨g2, 0, none⟩) ((idx R p).length + 1) cap2) ((idx R p).length + 1) (((idx R p).map fun k => ptr (rb k)) ++ [ptr (w.heap.size + 1)]) := by
    refine owns_keep hown2 fun g hg => ?_
    obtain ⟨cur, hh⟩ := owns_heap hown2 hg
    exact e3 g (lt_of hh) (kindm hh hm2)
  have rec3 : Recs w3 B (.slice (some ⟨w.heap.size, 0, none⟩) 1 1) [t] := by
    refine ⟨[c], rfl, ⟨rfl, .inr ⟨w.heap.size, 1, #[.pointer (some ⟨c, 0, none⟩)], rfl, hB, newA, Nat.le_refl _, by decide, rfl, rfl⟩⟩, fun j c' t' hj ht => ?_⟩
    have hj0 : j = 0 := by
      have := (List.getElem?_eq_some_iff.1 hj).1
      simpa using this
    subst hj0
    simp at hj ht
    subst hj
    subst ht
    refine ⟨o, ?_, ho⟩
    rw [old c (lt_of hc) (fun h => ?_) (kinds hc S.hs (by decide)) (fun h => ?_) (kindm hc hm)]
    · exact hc
    · obtain ⟨cur, hh⟩ := owns_heap S.row h.symm
      exact kinds hc hh (by decide) rfl
    · obtain ⟨cur, hh⟩ := owns_heap (S.vals p) h.symm
      exact kinds hc hh (by decide) rfl
  constructor
  · rw [addR, addK, hf]
    refine ⟨_, _, _, _, S.fresh (nb := w.heap.size + 1) (s0 := .slice (some ⟨w.heap.size, 0, none⟩) 1 1) old (by omega) hB hsb3 row3 newR rec3 ⟨w.heap.size, rfl, Nat.le_refl _⟩ hmp3 v3 ?_ ?_ ?_⟩
    · rcases hat1 with h | h
      · left; rw [h]; rfl
      · right; exact ⟨g1, rfl, by omega⟩
    · rcases hat2 with h | h
      · left; rw [h]; rfl
      · right; exact ⟨g2, rfl, by omega⟩
    · show some g2 ≠ some g1
      intro h
      have hgg : g2 = g1 := Option.some.inj h
      rcases hat2 with h2 | h2
      · exact hlvr (by rw [h2, hgg])
      · omega
  · have b1 : Below B w w1 := ((((Below.refl B w).alloc hB _).alloc (by rw [World.size_alloc]; omega) _).alloc (by rw [World.size_alloc, World.size_alloc]; omega) _).grown hg1 (by omega) (fun j hj => (S.row.lt j hj).1)
    have b4 : Below B w W4 := by rw [hW4]; exact b1.setCell S.sbB _
    exact ((b4.alloc (by omega) _).grown hg2 (by rw [World.size_alloc]; omega) (fun j hj => ((S.vals p).lt j hj).1)).grown hg3 (by omega) (fun j hj => by cases hj; exact S.mbB)
end
end Go.Proofs.Qxb6601393a.Smp
