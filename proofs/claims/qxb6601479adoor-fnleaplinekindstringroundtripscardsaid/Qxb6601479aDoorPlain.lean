/- The plain mathematics of the round trip: decimal digits and their value. -/
import Derived.Lib.ItoaNum
namespace Go.Proofs.Qxb6601479aDoor
open Go.Lib

def val (l : List UInt8) : Nat := l.foldl (fun a c => a * 10 + (c.toNat - 48)) 0
theorem val_snoc (l : List UInt8) (c : UInt8) : val (l ++ [c]) = val l * 10 + (c.toNat - 48) := by simp [val]
theorem toNat_dig (d : Nat) (h : d < 10) : (UInt8.ofNat (48 + d)).toNat = 48 + d := by
  rw [UInt8.toNat_ofNat']; omega

theorem dec_val (u : Nat) : val (decDigits u) = u := by
  induction u using Nat.strongRecOn with
  | _ u ih =>
    by_cases h : u < 10
    · rw [decDigits, dif_pos h]
      simp only [val, List.foldl_cons, List.foldl_nil]
      rw [toNat_dig u h]; omega
    · rw [decDigits, dif_neg h, val_snoc, ih (u / 10) (by omega), toNat_dig _ (by omega)]
      omega
theorem dec_dig (u : Nat) : ∀ c ∈ decDigits u, 48 ≤ c.toNat ∧ c.toNat ≤ 57 := by
  induction u using Nat.strongRecOn with
  | _ u ih =>
    intro c hc
    by_cases h : u < 10
    · rw [decDigits, dif_pos h] at hc
      simp only [List.mem_singleton] at hc
      subst hc
      rw [toNat_dig u h]; omega
    · rw [decDigits, dif_neg h] at hc
      simp only [List.mem_append, List.mem_singleton] at hc
      rcases hc with hc | hc
      · exact ih (u / 10) (by omega) c hc
      · subst hc
        rw [toNat_dig _ (by omega)]; omega
theorem dec_pos (u : Nat) : 1 ≤ (decDigits u).length := by
  rw [decDigits]
  split <;> simp
theorem dec_len (k : Nat) : ∀ u, u < 10 ^ (k + 1) → (decDigits u).length ≤ k + 1 := by
  induction k with
  | zero =>
    intro u hu
    rw [decDigits, dif_pos (by simpa using hu)]; simp
  | succ k ih =>
    intro u hu
    by_cases h : u < 10
    · rw [decDigits, dif_pos h]; simp
    · rw [decDigits, dif_neg h]
      have := ih (u / 10) (by rw [Nat.pow_succ] at hu; omega)
      simp only [List.length_append, List.length_singleton]
      omega
theorem dec_head (u : Nat) (h1 : 1 ≤ u) : ∃ c, (decDigits u)[0]? = some c ∧ 49 ≤ c.toNat := by
  induction u using Nat.strongRecOn with
  | _ u ih =>
    by_cases h : u < 10
    · rw [decDigits, dif_pos h]
      exact ⟨_, rfl, by rw [toNat_dig u h]; omega⟩
    · obtain ⟨c, hc, h49⟩ := ih (u / 10) (by omega) (by omega)
      rw [decDigits, dif_neg h]
      refine ⟨c, ?_, h49⟩
      rw [List.getElem?_append_left (by have := dec_pos (u / 10); omega)]
      exact hc
/-- More than one digit: the first is no zero. -/
theorem dec_lead (u : Nat) (h : 1 < (decDigits u).length) : ∃ c, (decDigits u)[0]? = some c ∧ c.toNat ≠ 48 := by
  have hu : 1 ≤ u := by
    rcases Nat.eq_zero_or_pos u with h0 | h0
    · subst h0
      rw [decDigits, dif_pos (by decide)] at h
      simp at h
    · exact h0
  obtain ⟨c, hc, h49⟩ := dec_head u hu
  exact ⟨c, hc, by omega⟩
theorem val_take_aux (n : Nat) : ∀ (l : List UInt8) (k : Nat), k ≤ l.length → l.length = n → val (l.take k) ≤ val l := by
  induction n with
  | zero =>
    intro l k _ hn
    obtain rfl : l = [] := List.eq_nil_of_length_eq_zero hn
    simp
  | succ n ih =>
    intro l k hk hn
    obtain ⟨l', c, rfl⟩ : ∃ l' c, l = l' ++ [c] := ⟨l.dropLast, l.getLast (by intro e; rw [e] at hn; simp at hn), (List.dropLast_concat_getLast _).symm⟩
    rw [val_snoc]
    by_cases h : k ≤ l'.length
    · rw [List.take_append_of_le_length h]
      have := ih l' k h (by simpa using hn)
      omega
    · rw [List.take_of_length_le (by simp at hk ⊢; omega), val_snoc]
      exact Nat.le_refl _
theorem val_take_le (l : List UInt8) (k : Nat) (h : k ≤ l.length) : val (l.take k) ≤ val l := val_take_aux l.length l k h rfl
end Go.Proofs.Qxb6601479aDoor
