/- The plain mathematics of the grouping by first sight: no Go in sight. -/
import Derived.Lib.Strings
namespace Go.Proofs.Qxb6601393a.Smp

/-- Go's == on strings. -/
def sameS (s t : ByteArray) : Bool := s.toList == t.toList
theorem sameS_iff (s t : ByteArray) : sameS s t = true ↔ s = t := by
  unfold sameS
  rw [beq_iff_eq, Lib.toList_data, Lib.toList_data]
  constructor
  · intro h
    apply ByteArray.ext
    exact Array.toList_inj.1 h
  · intro h; rw [h]
theorem sameS_self (s : ByteArray) : sameS s s = true := (sameS_iff s s).2 rfl
theorem sameS_ne {s t : ByteArray} (h : sameS s t = false) : s ≠ t := by
  intro e; rw [(sameS_iff s t).2 e] at h; cases h
theorem sameS_false {s t : ByteArray} (h : s ≠ t) : sameS s t = false := by
  cases e : sameS s t with
  | false => rfl
  | true => exact absurd ((sameS_iff s t).1 e) h
theorem sameS_symm (s t : ByteArray) : sameS s t = sameS t s := by
  cases h : sameS s t with
  | true => rw [(sameS_iff s t).1 h, sameS_self]
  | false => exact (sameS_false (fun e => sameS_ne h e.symm)).symm

/-- A resource: its path, its Accept value, the tags of its states. -/
structure Rec where
  path : ByteArray
  acc : ByteArray
  tags : List Nat

/-- The places of the path p's resources. -/
def idx (R : List Rec) (p : ByteArray) : List Nat := (List.range R.length).filter fun k => (R[k]?).any fun r => sameS r.path p
/-- Does the resource at k bear the Accept value a? -/
def accIs (R : List Rec) (a : ByteArray) (k : Nat) : Bool := (R[k]?).any fun r => sameS r.acc a
def findK (R : List Rec) (p a : ByteArray) : Option Nat := (idx R p).find? (accIs R a)
def addTag (t : Nat) (r : Rec) : Rec := { r with tags := r.tags ++ [t] }
def addR (R : List Rec) (p a : ByteArray) (t : Nat) : List Rec :=
  match findK R p a with
  | some k => R.modify k (addTag t)
  | none => R ++ [⟨p, a, [t]⟩]
def hasKey (K : List ByteArray) (p : ByteArray) : Bool := K.any fun q => sameS q p
def putK (K : List ByteArray) (p : ByteArray) : List ByteArray := if hasKey K p then K else K ++ [p]
def addK (R : List Rec) (K : List ByteArray) (p a : ByteArray) : List ByteArray :=
  match findK R p a with
  | some _ => K
  | none => putK K p

theorem mem_idx {R : List Rec} {p : ByteArray} {k : Nat} (h : k ∈ idx R p) : ∃ r, R[k]? = some r ∧ r.path = p ∧ k < R.length := by
  unfold idx at h
  obtain ⟨h1, h2⟩ := List.mem_filter.1 h
  have hk := List.mem_range.1 h1
  rw [List.getElem?_eq_getElem hk] at h2
  exact ⟨R[k], List.getElem?_eq_getElem hk, (sameS_iff _ _).1 h2, hk⟩
theorem idx_snoc (R : List Rec) (r : Rec) (p : ByteArray) : idx (R ++ [r]) p = idx R p ++ (if sameS r.path p then [R.length] else []) := by
  unfold idx
  rw [List.length_append, List.length_singleton, List.range_succ, List.filter_append]
  congr 1
  · apply List.filter_congr
    intro k hk
    have hk := List.mem_range.1 hk
    rw [List.getElem?_append_left hk]
  · cases h : sameS r.path p <;> simp [h]
theorem idx_modify (R : List Rec) (k t : Nat) (p : ByteArray) : idx (R.modify k (addTag t)) p = idx R p := by
  unfold idx
  rw [List.length_modify]
  apply List.filter_congr
  intro j _
  rw [List.getElem?_modify]
  cases R[j]? with
  | none => simp
  | some r => by_cases h : k = j <;> simp [h, addTag]
theorem idx_lt {R : List Rec} {p : ByteArray} {k : Nat} (h : k ∈ idx R p) : k < R.length := by
  obtain ⟨_, _, _, h⟩ := mem_idx h; exact h
theorem idx_length_le (R : List Rec) (p : ByteArray) : (idx R p).length ≤ R.length := by
  have := List.length_filter_le (fun k => (R[k]?).any fun r => sameS r.path p) (List.range R.length)
  rw [List.length_range] at this
  exact this

/-! ### the steps -/
abbrev Steps := List (ByteArray × ByteArray)
def pth (ps : Steps) (i : Nat) : ByteArray := (ps.getD i (ByteArray.empty, ByteArray.empty)).1
def acp (ps : Steps) (i : Nat) : ByteArray := (ps.getD i (ByteArray.empty, ByteArray.empty)).2
def same (ps : Steps) (j i : Nat) : Bool := sameS (pth ps j) (pth ps i) && sameS (acp ps j) (acp ps i)
theorem same_iff (ps : Steps) (j i : Nat) : same ps j i = true ↔ pth ps j = pth ps i ∧ acp ps j = acp ps i := by
  unfold same; rw [Bool.and_eq_true, sameS_iff, sameS_iff]
def firstOf (ps : Steps) (i : Nat) : Nat := ((List.range i).find? fun j => same ps j i).getD i
def isF (ps : Steps) (i : Nat) : Bool := firstOf ps i == i
/-- How many firsts stand before i: the rank. -/
def cnt (ps : Steps) (i : Nat) : Nat := ((List.range i).filter (isF ps)).length
def seen (ps : Steps) (i : Nat) : Bool := (List.range i).any fun j => sameS (pth ps j) (pth ps i)
def Rf (ps : Steps) : Nat → List Rec
  | 0 => []
  | n + 1 => addR (Rf ps n) (pth ps n) (acp ps n) n
def Kf (ps : Steps) : Nat → List ByteArray
  | 0 => []
  | n + 1 => addK (Rf ps n) (Kf ps n) (pth ps n) (acp ps n)

/-- Either no earlier step is the same, or the first is the least such, and itself a first. -/
theorem first_ways (ps : Steps) (i : Nat) : (firstOf ps i = i ∧ ∀ j, j < i → same ps j i = false) ∨ (firstOf ps i < i ∧ same ps (firstOf ps i) i = true ∧ ∀ j, j < firstOf ps i → same ps j i = false) := by
  unfold firstOf
  cases h : (List.range i).find? (fun j => same ps j i) with
  | none =>
    left
    refine ⟨rfl, fun j hj => ?_⟩
    have := List.find?_eq_none.1 h j (List.mem_range.2 hj)
    simpa using this
  | some j =>
    right
    have h1 := List.find?_some h
    have h2 := List.mem_range.1 (List.mem_of_find?_eq_some h)
    refine ⟨h2, h1, fun k hk => ?_⟩
    obtain ⟨_, as, bs, e, hall⟩ := List.find?_eq_some_iff_append.1 h
    have e' : (List.range i)[k]? = (as ++ j :: bs)[k]? := by rw [e]
    have hj : as.length = j := by
      have e3 : (List.range i)[as.length]? = some j := by rw [e, List.getElem?_append_right (Nat.le_refl _)]; simp
      have hlt : as.length < i := by
        have := congrArg List.length e
        simp at this
        omega
      rw [List.getElem?_range hlt] at e3
      exact Option.some.inj e3
    have hka : k < as.length := by simp only [Option.getD_some] at hk; omega
    have hki : k < i := by simp only [Option.getD_some] at hk; omega
    rw [List.getElem?_range hki, List.getElem?_append_left hka, List.getElem?_eq_getElem hka] at e'
    have hm : k ∈ as := by rw [Option.some.inj e']; exact List.getElem_mem hka
    have := hall k hm
    simpa using this
theorem first_le (ps : Steps) (i : Nat) : firstOf ps i ≤ i := by
  rcases first_ways ps i with ⟨h, _⟩ | ⟨h, _⟩ <;> omega
theorem first_first (ps : Steps) (i : Nat) : firstOf ps (firstOf ps i) = firstOf ps i := by
  rcases first_ways ps i with ⟨h, _⟩ | ⟨h1, h2, h3⟩
  · rw [h, h]
  · rcases first_ways ps (firstOf ps i) with ⟨h, _⟩ | ⟨g1, g2, _⟩
    · exact h
    · have := h3 _ g1
      have e := (same_iff ps _ _).1 g2
      have e2 := (same_iff ps _ _).1 h2
      rw [(same_iff ps _ _).2 ⟨e.1.trans e2.1, e.2.trans e2.2⟩] at this
      cases this
/-- Two firsts that are the same step are one. -/
theorem first_uniq (ps : Steps) (i j : Nat) (hi : firstOf ps i = i) (hj : firstOf ps j = j) (h : same ps i j = true) : i = j := by
  have key : ∀ a b : Nat, firstOf ps b = b → same ps a b = true → ¬ a < b := by
    intro a b hb hs hlt
    rcases first_ways ps b with ⟨_, h2⟩ | ⟨h2, _⟩
    · rw [h2 a hlt] at hs; cases hs
    · omega
  have e := (same_iff ps _ _).1 h
  have h1 := key i j hj h
  have h2 := key j i hi ((same_iff ps _ _).2 ⟨e.1.symm, e.2.symm⟩)
  omega
theorem same_first (ps : Steps) (i : Nat) : same ps (firstOf ps i) i = true := by
  rcases first_ways ps i with ⟨h, _⟩ | ⟨_, h, _⟩
  · rw [h, same_iff]; exact ⟨rfl, rfl⟩
  · exact h
theorem cnt_succ (ps : Steps) (i : Nat) : cnt ps (i + 1) = cnt ps i + if isF ps i then 1 else 0 := by
  unfold cnt
  rw [List.range_succ, List.filter_append]
  cases h : isF ps i <;> simp [h]
theorem cnt_le (ps : Steps) (i : Nat) : cnt ps i ≤ i := by
  have := List.length_filter_le (isF ps) (List.range i)
  rw [List.length_range] at this
  exact this
theorem cnt_mono (ps : Steps) (i j : Nat) (h : i ≤ j) : cnt ps i ≤ cnt ps j := by
  induction j with
  | zero => have : i = 0 := by omega
            subst this; exact Nat.le_refl _
  | succ j ih =>
    by_cases e : i = j + 1
    · subst e; exact Nat.le_refl _
    · have := ih (by omega)
      rw [cnt_succ]; omega
theorem cnt_lt (ps : Steps) (i j : Nat) (h : i < j) (hi : isF ps i = true) : cnt ps i < cnt ps j := by
  have := cnt_mono ps (i + 1) j h
  rw [cnt_succ, if_pos hi] at this
  omega
end Go.Proofs.Qxb6601393a.Smp
