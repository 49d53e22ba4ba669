/- What the fold of 'add' over the steps comes to. -/
import Derived.Test.Qxb6601393aPlain
namespace Go.Proofs.Qxb6601393a.Smp

def tagsOf (ps : Steps) (n i : Nat) : List Nat := (List.range n).filter fun j => firstOf ps j == i

structure Folded (ps : Steps) (n : Nat) : Prop where
  len : (Rf ps n).length = cnt ps n
  at' : ∀ i, i < n → isF ps i = true → (Rf ps n)[cnt ps i]? = some ⟨pth ps i, acp ps i, tagsOf ps n i⟩
  back : ∀ k, k < cnt ps n → ∃ i, i < n ∧ isF ps i = true ∧ cnt ps i = k
  idxs : ∀ p, idx (Rf ps n) p = ((List.range n).filter fun j => isF ps j && sameS (pth ps j) p).map (cnt ps)
  keys : Kf ps n = ((List.range n).filter fun i => !seen ps i).map (pth ps)

/-- Who is found is the step's first. -/
theorem find_some {ps : Steps} {n k : Nat} (F : Folded ps n) (h : findK (Rf ps n) (pth ps n) (acp ps n) = some k) : firstOf ps n < n ∧ k = cnt ps (firstOf ps n) := by
  unfold findK at h
  have h1 := List.find?_some h
  have h2 := List.mem_of_find?_eq_some h
  obtain ⟨r, hr, hp, hk⟩ := mem_idx h2
  rw [F.len] at hk
  obtain ⟨i, hi, hF, rfl⟩ := F.back k hk
  have e := F.at' i hi hF
  rw [hr] at e
  have e := Option.some.inj e
  subst e
  unfold accIs at h1
  rw [hr] at h1
  have ha := (sameS_iff _ _).1 h1
  simp only at hp ha
  have hs : same ps i n = true := (same_iff ps _ _).2 ⟨hp, ha⟩
  rcases first_ways ps n with ⟨_, g⟩ | ⟨g1, g2, _⟩
  · rw [g i hi] at hs; cases hs
  · have e2 := (same_iff ps _ _).1 g2
    have : i = firstOf ps n := first_uniq ps i (firstOf ps n) (by simpa [isF] using hF) (first_first ps n) ((same_iff ps _ _).2 ⟨hp.trans e2.1.symm, ha.trans e2.2.symm⟩)
    exact ⟨g1, by rw [this]⟩
theorem find_none {ps : Steps} {n : Nat} (F : Folded ps n) (h : findK (Rf ps n) (pth ps n) (acp ps n) = none) : firstOf ps n = n := by
  rcases first_ways ps n with ⟨g, _⟩ | ⟨g1, g2, _⟩
  · exact g
  · exfalso
    have hF : isF ps (firstOf ps n) = true := by simp [isF, first_first]
    have e := F.at' _ g1 hF
    have e2 := (same_iff ps _ _).1 g2
    have hm : cnt ps (firstOf ps n) ∈ idx (Rf ps n) (pth ps n) := by
      unfold idx
      refine List.mem_filter.2 ⟨List.mem_range.2 ?_, ?_⟩
      · rw [F.len]; exact cnt_lt ps _ _ g1 hF
      · rw [e]; exact (sameS_iff _ _).2 e2.1
    have := List.find?_eq_none.1 h _ hm
    apply this
    unfold accIs
    rw [e]
    exact (sameS_iff _ _).2 e2.2

theorem seen_iff (ps : Steps) (n : Nat) : seen ps n = true ↔ ∃ j, j < n ∧ pth ps j = pth ps n := by
  unfold seen
  rw [List.any_eq_true]
  constructor
  · rintro ⟨j, hj, h⟩; exact ⟨j, List.mem_range.1 hj, (sameS_iff _ _).1 h⟩
  · rintro ⟨j, hj, h⟩; exact ⟨j, List.mem_range.2 hj, (sameS_iff _ _).2 h⟩
/-- The first step with a given path has not been seen. -/
theorem least_path (ps : Steps) (p : ByteArray) : ∀ j, pth ps j = p → ∃ i, i ≤ j ∧ pth ps i = p ∧ seen ps i = false := by
  intro j
  induction j using Nat.strongRecOn with
  | _ j ih =>
    intro hj
    cases hs : seen ps j with
    | false => exact ⟨j, Nat.le_refl _, hj, hs⟩
    | true =>
      obtain ⟨i, hi, he⟩ := (seen_iff ps j).1 hs
      obtain ⟨i', h1, h2, h3⟩ := ih i hi (he.trans hj)
      exact ⟨i', by omega, h2, h3⟩
theorem hasKey_seen {ps : Steps} {n : Nat} (F : Folded ps n) : hasKey (Kf ps n) (pth ps n) = seen ps n := by
  rw [Bool.eq_iff_iff, seen_iff]
  unfold hasKey
  rw [F.keys, List.any_eq_true]
  constructor
  · rintro ⟨q, hq, h⟩
    obtain ⟨j, hj, rfl⟩ := List.mem_map.1 hq
    exact ⟨j, List.mem_range.1 (List.mem_filter.1 hj).1, (sameS_iff _ _).1 h⟩
  · rintro ⟨j, hj, h⟩
    obtain ⟨i, h1, h2, h3⟩ := least_path ps _ j h
    exact ⟨pth ps i, List.mem_map.2 ⟨i, List.mem_filter.2 ⟨List.mem_range.2 (by omega), by simp [h3]⟩, rfl⟩, (sameS_iff _ _).2 h2⟩

theorem tagsOf_succ (ps : Steps) (n i : Nat) : tagsOf ps (n + 1) i = tagsOf ps n i ++ if firstOf ps n = i then [n] else [] := by
  unfold tagsOf
  rw [List.range_succ, List.filter_append]
  by_cases h : firstOf ps n = i <;> simp [h]
theorem tagsOf_self (ps : Steps) (n : Nat) : tagsOf ps n n = [] := by
  unfold tagsOf
  rw [List.filter_eq_nil_iff]
  intro j hj
  have := first_le ps j
  have := List.mem_range.1 hj
  simp; omega

theorem folded (ps : Steps) (n : Nat) : Folded ps n := by
  induction n with
  | zero => exact ⟨rfl, fun i h => by omega, fun k h => by simp [cnt] at h, fun p => rfl, rfl⟩
  | succ n F =>
    cases hf : findK (Rf ps n) (pth ps n) (acp ps n) with
    | some k =>
      obtain ⟨h1, rfl⟩ := find_some F hf
      have hnF : isF ps n = false := by unfold isF; rw [beq_eq_false_iff_ne]; omega
      have eR : Rf ps (n + 1) = (Rf ps n).modify (cnt ps (firstOf ps n)) (addTag n) := by rw [Rf, addR, hf]
      have eK : Kf ps (n + 1) = Kf ps n := by rw [Kf, addK, hf]
      have ec : cnt ps (n + 1) = cnt ps n := by rw [cnt_succ, hnF]; rfl
      have hs : seen ps n = true := by
        rw [seen_iff]
        exact ⟨_, h1, ((same_iff ps _ _).1 (same_first ps n)).1⟩
      refine ⟨by rw [eR, List.length_modify, F.len, ec], fun i hi hF => ?_, fun k hk => ?_, fun p => ?_, ?_⟩
      · have hin : i < n := by
          rcases Nat.lt_or_ge i n with h | h
          · exact h
          · have : i = n := by omega
            subst this; rw [hnF] at hF; cases hF
        rw [eR, List.getElem?_modify, F.at' i hin hF, tagsOf_succ]
        by_cases e : firstOf ps n = i
        · subst e; simp [addTag]
        · have hne : cnt ps (firstOf ps n) ≠ cnt ps i := by
            intro ec
            have hF0 : isF ps (firstOf ps n) = true := by simp [isF, first_first]
            rcases Nat.lt_or_ge (firstOf ps n) i with h | h
            · have := cnt_lt ps _ _ h hF0; omega
            · have := cnt_lt ps i (firstOf ps n) (by omega) hF; omega
          simp [e, hne]
      · rw [ec] at hk
        obtain ⟨i, a, b, c⟩ := F.back k hk
        exact ⟨i, by omega, b, c⟩
      · rw [eR, idx_modify, F.idxs, List.range_succ, List.filter_append]
        simp [hnF]
      · rw [eK, F.keys, List.range_succ, List.filter_append]
        simp [hs]
    | none =>
      have h1 := find_none F hf
      have hnF : isF ps n = true := by unfold isF; rw [h1]; simp
      have eR : Rf ps (n + 1) = Rf ps n ++ [⟨pth ps n, acp ps n, [n]⟩] := by rw [Rf, addR, hf]
      have eK : Kf ps (n + 1) = putK (Kf ps n) (pth ps n) := by rw [Kf, addK, hf]
      have ec : cnt ps (n + 1) = cnt ps n + 1 := by rw [cnt_succ, hnF]; rfl
      refine ⟨by rw [eR, List.length_append, F.len, ec]; rfl, fun i hi hF => ?_, fun k hk => ?_, fun p => ?_, ?_⟩
      · rw [eR, tagsOf_succ]
        by_cases e : i = n
        · subst e
          rw [List.getElem?_append_right (by rw [F.len]; exact Nat.le_refl _), F.len, tagsOf_self]
          simp [h1]
        · have hin : i < n := by omega
          have := cnt_lt ps i n hin hF
          rw [List.getElem?_append_left (by rw [F.len]; exact this), F.at' i hin hF]
          have : ¬ firstOf ps n = i := by omega
          simp [this]
      · rw [ec] at hk
        by_cases e : k = cnt ps n
        · exact ⟨n, by omega, hnF, e.symm⟩
        · obtain ⟨i, a, b, c⟩ := F.back k (by omega)
          exact ⟨i, by omega, b, c⟩
      · rw [eR, idx_snoc, F.idxs, F.len, List.range_succ, List.filter_append, List.map_append]
        congr 1
        cases h : sameS (pth ps n) p <;> simp [hnF, h]
      · rw [eK, putK, hasKey_seen F, F.keys, List.range_succ, List.filter_append, List.map_append]
        cases h : seen ps n <;> simp [h]
end Go.Proofs.Qxb6601393a.Smp
