/- What the two ways of 'add' come to, outside the walk. -/
import Derived.Test.Qxb6601393aMem2
namespace Go.Proofs.Qxb6601393a.Smp
open Go.RowKit
section
variable {w : World} {B sb : Nat} {R : List Rec} {K : List ByteArray} {vr : Value} {mb : Nat} {L : ByteArray → Value} {rb : Nat → Nat} {sv : Nat → Value}

theorem find_at {R : List Rec} {p a : ByteArray} {q k : Nat} (hk : (idx R p)[q]? = some k) (hno : ∀ j ∈ (idx R p).take q, accIs R a j = false) (hy : accIs R a k = true) : findK R p a = some k := by
  unfold findK
  rw [List.find?_eq_some_iff_append]
  obtain ⟨hq, hk'⟩ := List.getElem?_eq_some_iff.1 hk
  refine ⟨hy, (idx R p).take q, (idx R p).drop (q + 1), ?_, fun x hx => by rw [hno x hx]; rfl⟩
  rw [← hk', ← List.drop_eq_getElem_cons hq, List.take_append_drop]
theorem find_no {R : List Rec} {p a : ByteArray} {q : Nat} (hq : (idx R p).length ≤ q) (hno : ∀ j ∈ (idx R p).take q, accIs R a j = false) : findK R p a = none := by
  unfold findK
  rw [List.find?_eq_none]
  intro x hx
  rw [List.take_of_length_le hq] at hno
  rw [hno x hx]; decide

/-- The resource's block behind the append to its states. -/
theorem res_after {w1 : World} {o : Obj} {k : Nat} {r : Rec} (S : Samp w B sb R K vr mb L rb sv) (hk : R[k]? = some r) (hg : (w.alloc o).grownBy w1 (sv k).ownBlock) :
    w1.heap[rb k]? = some (.cells #[.int .i64 (k : Nat), .string r.acc, sv k] 49 (0, 0)) := by
  have rk := S.res k r hk
  rw [hg.block (rb k) (by rw [World.size_alloc]; have := lt_of rk; omega) ?_, Below.heap_alloc w o _ (lt_of rk)]
  · exact rk
  · intro e
    obtain ⟨cur, hh⟩ := (S.sts k r hk).heap e.symm
    exact kinds rk hh (by decide) rfl

theorem found_fin {w1 : World} {p a : ByteArray} {c t k g cap q : Nat} {o : Array Value} {r : Rec} {cs : List Nat} {ob : Obj} (S : Samp w B sb R K vr mb L rb sv) (hB : B ≤ w.heap.size)
    (hk : R[k]? = some r) (hki : (idx R p)[q]? = some k) (hno : ∀ j ∈ (idx R p).take q, accIs R a j = false) (hacc : sameS r.acc a = true)
    (hc : w.heap[c]? = some (.cells o 45 (0, 0))) (ho : o[0]? = some (.int .i64 (t : Nat)))
    (hcl : cs.length = r.tags.length) (hrecs : ∀ (j c t : Nat), cs[j]? = some c → r.tags[j]? = some t → ∃ o : Array Value, w.heap[c]? = some (.cells o 45 (0, 0)) ∧ o[0]? = some (.int .i64 (t : Nat)))
    (hown0 : w.ownsRow B 42 1 (sv k) r.tags.length (cs.map ptr))
    (hown : w1.ownsRow B 42 1 (.slice (some ⟨g, 0, none⟩) (r.tags.length + 1) cap) (r.tags.length + 1) (cs.map ptr ++ [.pointer (some ⟨c, 0, none⟩)]))
    (hg : (w.alloc ob).grownBy w1 (sv k).ownBlock) (hat : (sv k).ownBlock = some g ∨ g = w.heap.size + 1) :
    (∃ vr' L' rb' sv', Samp (w1.setCell ⟨rb k, 2, none⟩ (.slice (some ⟨g, 0, none⟩) (r.tags.length + 1) cap)) B sb (addR R p a t) (addK R K p a) vr' mb L' rb' sv') ∧
      Below B w (w1.setCell ⟨rb k, 2, none⟩ (.slice (some ⟨g, 0, none⟩) (r.tags.length + 1) cap)) := by
  have hf : findK R p a = some k := find_at hki hno (by unfold accIs; rw [hk]; exact hacc)
  have rk1 := res_after S hk hg
  have hsz := hg.size
  rw [World.size_alloc] at hsz
  have other : ∀ b, b ≠ rb k → (w1.setCell ⟨rb k, 2, none⟩ (.slice (some ⟨g, 0, none⟩) (r.tags.length + 1) cap)).heap[b]? = w1.heap[b]? := fun b hb => Below.heap_setCell _ _ _ _ hb
  have old : ∀ b, b < w.heap.size → some b ≠ (sv k).ownBlock → w1.heap[b]? = w.heap[b]? := fun b hb hne => by
    rw [hg.block b (by rw [World.size_alloc]; omega) hne, Below.heap_alloc w ob b hb]
  constructor
  · rw [addR, addK, hf]
    refine ⟨_, _, _, _, S.found (s' := .slice (some ⟨g, 0, none⟩) (r.tags.length + 1) cap) hk (fun b hb h1 h2 => (other b h2).trans (old b hb h1)) ?_ ?_ ?_⟩
    · exact (heap_setCell_same w1 (rb k) 2 _ 49 _ rk1).trans rfl
    · refine ⟨cs ++ [c], by simp [hcl], ?_, fun j c' t' hj ht => ?_⟩
      · rw [List.length_append, List.map_append]
        refine owns_keep hown fun g' hg' => other g' ?_
        obtain ⟨cur, hh⟩ := owns_heap hown hg'
        exact kinds hh rk1 (by decide)
      · have stay : ∀ (b : Nat) (x : Array Value), w.heap[b]? = some (.cells x 45 (0, 0)) → (w1.setCell ⟨rb k, 2, none⟩ (.slice (some ⟨g, 0, none⟩) (r.tags.length + 1) cap)).heap[b]? = some (.cells x 45 (0, 0)) := by
          intro b x hb
          rw [other b (kinds hb (S.res k r hk) (by decide)), old b (lt_of hb) ?_]
          · exact hb
          · intro e
            obtain ⟨cur, hh⟩ := owns_heap hown0 e.symm
            exact kinds hb hh (by decide) rfl
        by_cases hjl : j < cs.length
        · rw [List.getElem?_append_left hjl] at hj
          rw [List.getElem?_append_left (by omega)] at ht
          obtain ⟨x, h1, h2⟩ := hrecs j c' t' hj ht
          exact ⟨x, stay c' x h1, h2⟩
        · have hjl2 : j < (cs ++ [c]).length := (List.getElem?_eq_some_iff.1 hj).1
          have ej : j = cs.length := by simp at hjl2; omega
          subst ej
          rw [List.getElem?_append_right (Nat.le_refl _)] at hj
          rw [hcl, List.getElem?_append_right (Nat.le_refl _)] at ht
          simp at hj ht
          subst hj
          subst ht
          exact ⟨o, stay c o hc, ho⟩
    · rcases hat with h | h
      · left; rw [h]; rfl
      · right; exact ⟨g, rfl, by omega⟩
  · refine (((Below.refl B w).alloc hB ob).grown hg (by rw [World.size_alloc]; omega) (fun j hj => (hown0.lt j hj).1)).setCell (S.rbB k (get_lt hk)) _
end
end Go.Proofs.Qxb6601393a.Smp
