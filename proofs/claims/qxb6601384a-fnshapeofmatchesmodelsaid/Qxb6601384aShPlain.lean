/- The plain mathematics of 'shapeOf': classes of bytes, runs, symbols; no Go in sight. -/
namespace Go.Proofs.Qxb6601384a.Sh

/-- 1 a letter, 2 a digit, 3 a space, 0 any other byte. -/
def cls (c : Int) : Int := if (97 ≤ c ∧ c ≤ 122) ∨ (65 ≤ c ∧ c ≤ 90) then 1 else if 48 ≤ c ∧ c ≤ 57 then 2 else if c = 32 then 3 else 0
/-- The symbol of a run of m bytes that begins with c. -/
def sym (c : Int) (m : Nat) : Int :=
  if cls c = 1 then (if m = 1 then 97 else if m = 2 ∧ 65 ≤ c ∧ c ≤ 90 then 66 else if m = 2 then 98 else if m = 3 then 99 else 100)
  else if cls c = 2 then (if m ≤ 2 then 48 else 57) else if cls c = 3 then 32 else c
/-- The length of the run at the list's head. -/
def runLen : List Int → Nat
  | [] => 0
  | [_] => 1
  | c :: d :: r => if cls c ≠ 0 ∧ cls d = cls c then runLen (d :: r) + 1 else 1
/-- The shape, p the kind of the byte before. -/
def sh (p : Int) : List Int → List Int
  | [] => []
  | c :: r => if cls c ≠ 0 ∧ p = cls c then sh (cls c) r else sym c (runLen (c :: r)) :: sh (cls c) r
/-- The bytes of a string as numbers. -/
def nums (s : ByteArray) : List Int := s.data.toList.map fun c => (c.toNat : Int)

theorem nums_length (s : ByteArray) : (nums s).length = s.size := by unfold nums; rw [List.length_map]; exact Array.length_toList
theorem nums_at (s : ByteArray) (i : Nat) (h : i < s.size) : (nums s)[i]? = some (s[i].toNat : Int) := by
  unfold nums
  rw [List.getElem?_map, List.getElem?_eq_getElem (by simpa using h)]
  rfl
theorem drop_at (l : List Int) (i : Nat) (c : Int) (h : l[i]? = some c) : l.drop i = c :: l.drop (i + 1) := by
  obtain ⟨hi, rfl⟩ := List.getElem?_eq_some_iff.1 h
  exact List.drop_eq_getElem_cons hi

theorem runLen_pos (l : List Int) (h : l ≠ []) : 1 ≤ runLen l := by
  match l with
  | [] => exact absurd rfl h
  | [_] => simp [runLen]
  | c :: d :: r => unfold runLen; split <;> omega
theorem runLen_le (l : List Int) : runLen l ≤ l.length := by
  match l with
  | [] => simp [runLen]
  | [_] => simp [runLen]
  | c :: d :: r =>
    have ih := runLen_le (d :: r)
    unfold runLen
    split
    · simp only [List.length_cons] at ih ⊢; omega
    · simp only [List.length_cons]; omega

theorem sh_rest (r : List Int) : ∀ c, sh (cls c) r = sh 0 (r.drop (runLen (c :: r) - 1)) := by
  induction r with
  | nil => intro c; simp [sh]
  | cons d r ih =>
    intro c
    by_cases h : cls c ≠ 0 ∧ cls d = cls c
    · have e1 : runLen (c :: d :: r) = runLen (d :: r) + 1 := by rw [runLen, if_pos h]
      have hp := runLen_pos (d :: r) (by simp)
      have e2 : sh (cls c) (d :: r) = sh (cls d) r := by rw [sh, if_pos ⟨by rw [h.2]; exact h.1, h.2.symm⟩]
      have e3 : (d :: r).drop (runLen (d :: r)) = r.drop (runLen (d :: r) - 1) := by
        obtain ⟨q, hq⟩ : ∃ q, runLen (d :: r) = q + 1 := ⟨runLen (d :: r) - 1, by omega⟩
        rw [hq]; simp
      rw [e2, ih d, e1, Nat.add_sub_cancel, e3]
    · have e1 : runLen (c :: d :: r) = 1 := by rw [runLen, if_neg h]
      rw [e1]
      show sh (cls c) (d :: r) = sh 0 (d :: r)
      rw [sh, sh, if_neg (by intro k; exact h ⟨by rw [k.2]; exact k.1, k.2.symm⟩), if_neg (by intro k; exact k.1 k.2.symm)]

/-- A run whole: its symbol, then the shape of what follows. -/
theorem sh_run (c : Int) (r : List Int) : sh 0 (c :: r) = sym c (runLen (c :: r)) :: sh 0 ((c :: r).drop (runLen (c :: r))) := by
  have hp := runLen_pos (c :: r) (by simp)
  have e3 : (c :: r).drop (runLen (c :: r)) = r.drop (runLen (c :: r) - 1) := by
    obtain ⟨q, hq⟩ : ∃ q, runLen (c :: r) = q + 1 := ⟨runLen (c :: r) - 1, by omega⟩
    rw [hq]; simp
  rw [e3, ← sh_rest]
  rw [sh, if_neg (by intro k; exact k.1 k.2.symm)]

theorem sh_length (r : List Int) : ∀ p, (sh p r).length ≤ r.length := by
  induction r with
  | nil => intro p; simp [sh]
  | cons c r ih => intro p; have := ih (cls c); rw [sh]; split <;> simp only [List.length_cons] <;> omega

/-! ### by places -/
theorem runLen_last (l : List Int) (j : Nat) (h : j + 1 = l.length) : runLen (l.drop j) = 1 := by
  have : (l.drop j).length = 1 := by rw [List.length_drop]; omega
  match hl : l.drop j, this with
  | [_], _ => rfl
theorem runLen_step (l : List Int) (j : Nat) (c d : Int) (hc : l[j]? = some c) (hd : l[j + 1]? = some d) :
    runLen (l.drop j) = if cls c ≠ 0 ∧ cls d = cls c then runLen (l.drop (j + 1)) + 1 else 1 := by
  rw [drop_at l j c hc, drop_at l (j + 1) d hd, runLen]

/-- One byte more belongs to the run. -/
theorem run_more (l : List Int) (i n : Nat) (c d : Int) (hn : 1 ≤ n) (hc : l[i + n - 1]? = some c) (hd : l[i + n]? = some d) (h0 : cls c ≠ 0) (he : cls d = cls c)
    (h : runLen (l.drop i) + 1 = n + runLen (l.drop (i + n - 1))) : runLen (l.drop i) + 1 = (n + 1) + runLen (l.drop (i + (n + 1) - 1)) := by
  have e : i + n - 1 + 1 = i + n := by omega
  have := runLen_step l (i + n - 1) c d hc (by rw [e]; exact hd)
  rw [if_pos ⟨h0, he⟩, e] at this
  have e2 : i + (n + 1) - 1 = i + n := by omega
  rw [e2]; omega
/-- The run ends here. -/
theorem run_done (l : List Int) (i n : Nat) (c d : Int) (hn : 1 ≤ n) (hc : l[i + n - 1]? = some c) (hd : l[i + n]? = some d) (he : cls d ≠ cls c)
    (h : runLen (l.drop i) + 1 = n + runLen (l.drop (i + n - 1))) : runLen (l.drop i) = n := by
  have e : i + n - 1 + 1 = i + n := by omega
  have := runLen_step l (i + n - 1) c d hc (by rw [e]; exact hd)
  rw [if_neg (by intro k; exact he k.2)] at this
  omega
theorem run_end (l : List Int) (i n : Nat) (hn : 1 ≤ n) (hl : i + n = l.length)
    (h : runLen (l.drop i) + 1 = n + runLen (l.drop (i + n - 1))) : runLen (l.drop i) = n := by
  have := runLen_last l (i + n - 1) (by omega)
  omega
/-- A byte of no kind is a run by itself. -/
theorem run_other (l : List Int) (i : Nat) (c : Int) (hc : l[i]? = some c) (h0 : cls c = 0) : runLen (l.drop i) = 1 := by
  rw [drop_at l i c hc]
  match l.drop (i + 1) with
  | [] => rfl
  | d :: r => rw [runLen, if_neg (by intro k; exact k.1 h0)]
theorem run_le (l : List Int) (i : Nat) (hi : i ≤ l.length) : i + runLen (l.drop i) ≤ l.length := by
  have := runLen_le (l.drop i)
  rw [List.length_drop] at this
  omega
theorem run_ge (l : List Int) (i : Nat) (hi : i < l.length) : 1 ≤ runLen (l.drop i) :=
  runLen_pos _ (by intro k; have := congrArg List.length k; rw [List.length_drop] at this; simp at this; omega)
/-- What one round of shapeOf does. -/
theorem round_of (l pre : List Int) (i m : Nat) (c : Int) (hc : l[i]? = some c) (hm : runLen (l.drop i) = m) (h : pre ++ sh 0 (l.drop i) = sh 0 l) :
    (pre ++ [sym c m]) ++ sh 0 (l.drop (i + m)) = sh 0 l := by
  rw [← h]
  have e := drop_at l i c hc
  have r := sh_run c (l.drop (i + 1))
  rw [← e, hm, List.drop_drop] at r
  rw [r]; simp
end Go.Proofs.Qxb6601384a.Sh
