/- A new resource: what it does to the Sample in memory. -/
import Derived.Test.Qxb6601393aMem
namespace Go.Proofs.Qxb6601393a.Smp
open Go.RowKit
section
variable {w : World} {B sb : Nat} {R : List Rec} {K : List ByteArray} {vr : Value} {mb : Nat} {L : ByteArray → Value} {rb : Nat → Nat} {sv : Nat → Value}

theorem snoc_get {R : List Rec} {r0 r : Rec} {j : Nat} (h : (R ++ [r0])[j]? = some r) : (j < R.length ∧ R[j]? = some r) ∨ (j = R.length ∧ r = r0) := by
  by_cases hj : j < R.length
  · rw [List.getElem?_append_left hj] at h
    exact .inl ⟨hj, h⟩
  · rw [List.getElem?_append_right (by omega)] at h
    have hl : j - R.length < 1 := by
      have := (List.getElem?_eq_some_iff.1 h).1
      simpa using this
    have e : j = R.length := by omega
    subst e
    simp at h
    exact .inr ⟨rfl, h.symm⟩
theorem map_old (rb : Nat → Nat) (nb n : Nat) (l : List Nat) (h : ∀ k ∈ l, k < n) : l.map (fun k => ptr (if k = n then nb else rb k)) = l.map (fun k => ptr (rb k)) := by
  apply List.map_congr_left
  intro k hk
  have := h k hk
  rw [if_neg (by omega)]

theorem Samp.fresh {w' : World} {p a : ByteArray} {t nb : Nat} {vr' v' s0 : Value} (S : Samp w B sb R K vr mb L rb sv)
    (hch : ∀ b, b < w.heap.size → some b ≠ vr.ownBlock → b ≠ sb → some b ≠ (L p).ownBlock → b ≠ mb → w'.heap[b]? = w.heap[b]?)
    (hnb : w.heap.size ≤ nb) (hBw : B ≤ w.heap.size)
    (hs' : w'.heap[sb]? = some (.cells #[vr', .map (some mb)] 40 (0, 0)))
    (hrow : w'.ownsRow B 46 1 vr' (R.length + 1) (((List.range R.length).map fun k => ptr (rb k)) ++ [ptr nb]))
    (hres : w'.heap[nb]? = some (.cells #[.int .i64 (R.length : Nat), .string a, s0] 49 (0, 0))) (hrec : Recs w' B s0 [t])
    (hs0 : ∃ g, s0.ownBlock = some g ∧ w.heap.size ≤ g)
    (hmp : MapIs w' mb (putL L p v') (putK K p))
    (hv' : w'.ownsRow B 46 1 v' ((idx R p).length + 1) (((idx R p).map fun k => ptr (rb k)) ++ [ptr nb]))
    (hvr : vr'.ownBlock = vr.ownBlock ∨ ∃ g, vr'.ownBlock = some g ∧ w.heap.size ≤ g)
    (hvv : v'.ownBlock = (L p).ownBlock ∨ ∃ g, v'.ownBlock = some g ∧ w.heap.size ≤ g)
    (hne : v'.ownBlock ≠ vr'.ownBlock) :
    Samp w' B sb (R ++ [⟨p, a, [t]⟩]) (putK K p) vr' mb (putL L p v') (fun k => if k = R.length then nb else rb k) (fun k => if k = R.length then s0 else sv k) := by
  obtain ⟨es, cl, hm, _⟩ := S.mp.is
  have stay : ∀ (b : Nat) (o : Array Value) (e : TypeId) (f : Nat × Nat), w.heap[b]? = some (.cells o e f) → e ≠ 46 → e ≠ 40 → w'.heap[b]? = w.heap[b]? := by
    intro b o e f hb h46 h40
    refine hch b (lt_of hb) (fun hg => ?_) (kinds hb S.hs h40) (fun hg => ?_) (kindm hb hm)
    · obtain ⟨cur, hh⟩ := owns_heap S.row hg.symm
      exact kinds hb hh h46 rfl
    · obtain ⟨cur, hh⟩ := owns_heap (S.vals p) hg.symm
      exact kinds hb hh h46 rfl
  have hlen : (R ++ [(⟨p, a, [t]⟩ : Rec)]).length = R.length + 1 := by simp
  have old_lt : ∀ {v : Value} {n : Nat} {xs : List Value} {g : Nat} {e : TypeId}, w.ownsRow B e 1 v n xs → v.ownBlock = some g → g < w.heap.size := fun ho hg => by
    obtain ⟨cur, hh⟩ := owns_heap ho hg
    exact lt_of hh
  -- an old list at another path
  have oldl : ∀ q, q ≠ p → w'.ownsRow B 46 1 (L q) (idx R q).length ((idx R q).map fun k => ptr (rb k)) := by
    intro q hq
    refine owns_keep (S.vals q) fun g hg => ?_
    obtain ⟨cur, hh⟩ := owns_heap (S.vals q) hg
    refine hch g (lt_of hh) (fun e => ?_) (kinds hh S.hs (by decide)) (fun e => ?_) (kindm hh hm)
    · rcases S.lvr q with h | h
      · rw [h] at hg; cases hg
      · exact h (by rw [hg, e])
    · rcases S.lap q p hq with h | h
      · rw [h] at hg; cases hg
      · exact h (by rw [hg, e])
  refine ⟨hs', ?_, fun j r1 hj => ?_, fun j r1 hj => ?_, hmp, fun q => ?_, S.sbB, S.mbB, fun j hj => ?_, fun i j hi hj hij => ?_, fun i j hi hj hij => ?_, fun x y hxy => ?_, fun x => ?_⟩
  · rw [hlen, List.range_succ, List.map_append, map_old rb nb R.length _ (fun k hk => List.mem_range.1 hk)]
    simpa using hrow
  · rcases snoc_get hj with ⟨hjl, h0⟩ | ⟨rfl, rfl⟩
    · rw [if_neg (by omega), if_neg (by omega)]
      exact (stay _ _ _ _ (S.res j r1 h0) (by decide) (by decide)).trans (S.res j r1 h0)
    · rw [if_pos rfl, if_pos rfl]
      exact hres
  · rcases snoc_get hj with ⟨hjl, h0⟩ | ⟨rfl, rfl⟩
    · rw [if_neg (by omega)]
      refine (S.sts j r1 h0).keep (fun g hg => ?_) (fun c o h => stay c o 45 _ h (by decide) (by decide))
      obtain ⟨cur, hh⟩ := (S.sts j r1 h0).heap hg
      exact stay g cur 42 _ hh (by decide) (by decide)
    · rw [if_pos rfl]
      exact hrec
  · rw [idx_snoc]
    by_cases hq : q = p
    · subst hq
      rw [putL_same, sameS_self, if_pos rfl, List.length_append, List.map_append, map_old rb nb R.length _ (fun k hk => idx_lt hk)]
      simpa using hv'
    · rw [putL_other _ _ _ hq, sameS_false (fun h => hq h.symm)]
      simp only [Bool.false_eq_true, if_false, List.append_nil]
      rw [map_old rb nb R.length _ (fun k hk => idx_lt hk)]
      exact oldl q hq
  · rw [hlen] at hj
    by_cases e : j = R.length
    · rw [if_pos e]; omega
    · rw [if_neg e]; exact S.rbB j (by omega)
  · rw [hlen] at hi hj
    have lt_old : ∀ k, k < R.length → rb k < w.heap.size := fun k hk => by
      obtain ⟨r, hr⟩ := get_at hk
      exact lt_of (S.res k r hr)
    by_cases e1 : i = R.length
    · by_cases e2 : j = R.length
      · omega
      · rw [if_pos e1, if_neg e2] at hij
        have := lt_old j (by omega)
        omega
    · by_cases e2 : j = R.length
      · rw [if_neg e1, if_pos e2] at hij
        have := lt_old i (by omega)
        omega
      · rw [if_neg e1, if_neg e2] at hij
        exact S.rinj i j (by omega) (by omega) hij
  · rw [hlen] at hi hj
    obtain ⟨g0, hg0, hge⟩ := hs0
    have newer : ∀ k, k < R.length → (sv k).ownBlock = none ∨ (sv k).ownBlock ≠ s0.ownBlock := by
      intro k hk
      obtain ⟨r, hr⟩ := get_at hk
      cases hv : (sv k).ownBlock with
      | none => exact .inl rfl
      | some g =>
        right
        rw [hg0]
        intro e
        obtain ⟨cur, hh⟩ := (S.sts k r hr).heap hv
        have := lt_of hh
        have := Option.some.inj e
        omega
    by_cases e1 : i = R.length
    · have e2 : ¬ j = R.length := by omega
      rw [if_pos e1, if_neg e2]
      rcases newer j (by omega) with h | h
      · right; rw [h, hg0]; simp
      · right; exact fun h' => h h'.symm
    · by_cases e2 : j = R.length
      · rw [if_neg e1, if_pos e2]
        exact newer i (by omega)
      · rw [if_neg e1, if_neg e2]
        exact S.sap i j (by omega) (by omega) hij
  · -- two paths' lists lie apart
    have newer : ∀ q, q ≠ p → (L q).ownBlock = none ∨ (L q).ownBlock ≠ v'.ownBlock := by
      intro q hq
      rcases hvv with h | ⟨g, h, hge⟩
      · rw [h]; exact S.lap q p hq
      · cases hv : (L q).ownBlock with
        | none => exact .inl rfl
        | some g' =>
          right
          rw [h]
          intro e
          have := old_lt (S.vals q) hv
          have := Option.some.inj e
          omega
    by_cases e1 : x = p
    · subst e1
      rw [putL_same, putL_other _ _ _ (fun h => hxy h.symm)]
      rcases newer y (fun h => hxy h.symm) with h | h
      · cases hv : v'.ownBlock with
        | none => exact .inl rfl
        | some g => right; rw [h]; simp
      · right; exact fun h' => h h'.symm
    · by_cases e2 : y = p
      · subst e2
        rw [putL_same, putL_other _ _ _ e1]
        exact newer x e1
      · rw [putL_other _ _ _ e1, putL_other _ _ _ e2]
        exact S.lap x y hxy
  · by_cases e1 : x = p
    · subst e1
      rw [putL_same]
      exact .inr hne
    · rw [putL_other _ _ _ e1]
      rcases hvr with h | ⟨g, h, hge⟩
      · rw [h]; exact S.lvr x
      · cases hv : (L x).ownBlock with
        | none => exact .inl rfl
        | some g' =>
          right
          rw [h]
          intro e
          have := old_lt (S.vals x) hv
          have := Option.some.inj e
          omega
end
end Go.Proofs.Qxb6601393a.Smp
