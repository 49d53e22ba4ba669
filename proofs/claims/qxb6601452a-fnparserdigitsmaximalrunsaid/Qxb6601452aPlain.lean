/- The plain mathematics of the parser's two scans: how many elements at a place satisfy a test. -/
namespace Go.Proofs.Qxb6601452a.Jcs

def skip (p : Int → Bool) : List Int → Nat
  | [] => 0
  | c :: r => if p c then skip p r + 1 else 0
/-- Where the scan from k on stops. -/
def stop (p : Int → Bool) (l : List Int) (k : Nat) : Nat := k + skip p (l.drop k)

theorem skip_le (p : Int → Bool) (l : List Int) : skip p l ≤ l.length := by
  induction l with
  | nil => simp [skip]
  | cons c r ih => rw [skip]; split <;> simp only [List.length_cons] <;> omega
theorem drop_at (l : List Int) (i : Nat) (h : i < l.length) : l.drop i = l.getD i 0 :: l.drop (i + 1) := by
  rw [List.drop_eq_getElem_cons h]
  simp [List.getD, List.getElem?_eq_getElem h]
theorem stop_yes (p : Int → Bool) (l : List Int) (k : Nat) (h : k < l.length) (hp : p (l.getD k 0) = true) : stop p l k = stop p l (k + 1) := by
  unfold stop
  rw [drop_at l k h, skip, if_pos hp]; omega
theorem stop_no (p : Int → Bool) (l : List Int) (k : Nat) (h : k < l.length) (hp : p (l.getD k 0) = false) : stop p l k = k := by
  unfold stop
  rw [drop_at l k h, skip, if_neg (by rw [hp]; decide)]; omega
theorem stop_end (p : Int → Bool) (l : List Int) (k : Nat) (h : l.length ≤ k) : stop p l k = k := by
  unfold stop
  rw [List.drop_eq_nil_iff.2 h]; simp [skip]
theorem stop_ge (p : Int → Bool) (l : List Int) (k : Nat) : k ≤ stop p l k := by unfold stop; omega
theorem stop_le (p : Int → Bool) (l : List Int) (k : Nat) (h : k ≤ l.length) : stop p l k ≤ l.length := by
  unfold stop
  have := skip_le p (l.drop k)
  rw [List.length_drop] at this
  omega
theorem skip_all (p : Int → Bool) (l : List Int) : ∀ j, j < skip p l → p (l.getD j 0) = true := by
  induction l with
  | nil => intro j hj; simp [skip] at hj
  | cons c r ih =>
    intro j hj
    rw [skip] at hj
    split at hj
    · rename_i hc
      cases j with
      | zero => simpa using hc
      | succ j => simpa using ih j (by omega)
    · omega
theorem getD_drop (l : List Int) (k j : Nat) : (l.drop k).getD j 0 = l.getD (k + j) 0 := by
  simp [List.getD, List.getElem?_drop]
/-- What is passed over satisfies the test, and lies in the list. -/
theorem stop_all (p : Int → Bool) (l : List Int) (k i : Nat) (h1 : k ≤ i) (h2 : i < stop p l k) : i < l.length ∧ p (l.getD i 0) = true := by
  unfold stop at h2
  have hl := skip_le p (l.drop k)
  rw [List.length_drop] at hl
  have := skip_all p (l.drop k) (i - k) (by omega)
  rw [getD_drop, show k + (i - k) = i from by omega] at this
  exact ⟨by omega, this⟩
theorem skip_stops (p : Int → Bool) (l : List Int) (h : skip p l < l.length) : p (l.getD (skip p l) 0) = false := by
  induction l with
  | nil => simp at h
  | cons c r ih =>
    by_cases hc : p c = true
    · have e : skip p (c :: r) = skip p r + 1 := by rw [skip, if_pos hc]
      rw [e] at h ⊢
      simpa using ih (by simpa using h)
    · have e : skip p (c :: r) = 0 := by rw [skip, if_neg hc]
      rw [e]
      simpa using hc
/-- Where it stops within the list, the test fails. -/
theorem stop_fails (p : Int → Bool) (l : List Int) (k : Nat) (h : stop p l k < l.length) : p (l.getD (stop p l k) 0) = false := by
  unfold stop at h ⊢
  have := skip_stops p (l.drop k) (by rw [List.length_drop]; omega)
  rwa [getD_drop] at this
theorem stop_moved (p : Int → Bool) (l : List Int) (k : Nat) : decide (k < stop p l k) = (decide (k < l.length) && p (l.getD k 0)) := by
  by_cases h : k < l.length
  · cases hp : p (l.getD k 0) with
    | true =>
      rw [stop_yes p l k h hp]
      have := stop_ge p l (k + 1)
      simp [h]; omega
    | false => rw [stop_no p l k h hp]; simp
  · rw [stop_end p l k (by omega)]; simp [h]
def isSp (c : Int) : Bool := c == 32 || c == 9 || c == 10 || c == 13
def isDg (c : Int) : Bool := decide (48 ≤ c) && decide (c ≤ 57)
end Go.Proofs.Qxb6601452a.Jcs
