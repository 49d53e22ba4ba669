/- The parser reads the fallback name back. -/
import Derived.Test.Qxb6601479aDoorParse
import Derived.Test.Qxb6601479aDoorPlain
import Derived.Lib.Strings
import Derived.ShutString
namespace Go.Proofs.Qxb6601479aDoor
open Go.RowKit Go.Sort

def bytes (l : List UInt8) : ByteArray := ⟨l.toArray⟩
theorem bytes_size (l : List UInt8) : (bytes l).size = l.length := size_of_list l
theorem bytes_data (l : List UInt8) : (bytes l).data.toList = l := by simp [bytes]
theorem bytes_toList (l : List UInt8) : (bytes l).toList = l := by rw [Lib.toList_data]; exact bytes_data l
theorem bytes_ext {a b : ByteArray} (h : a.data.toList = b.data.toList) : a = b := by
  apply ByteArray.ext
  exact Array.toList_inj.1 h
theorem bytes_at (l : List UInt8) (k : Nat) (h : k < (bytes l).size) : (bytes l)[k] = l[k]'(by rw [← bytes_size]; exact h) := by
  show ((bytes l).data[k]'_) = _
  simp [bytes]
theorem extract_bytes (l : List UInt8) (a b : Nat) : (bytes l).extract a b = bytes ((l.drop a).take (b - a)) := by
  apply bytes_ext
  rw [Lib.extract_data, bytes_data, bytes_data]

def pre : List UInt8 := [108, 101, 97, 112, 76, 105, 110, 101, 75, 105, 110, 100, 40]
theorem name_bytes (I : List UInt8) : nameOf I = bytes (pre ++ I ++ [41]) := rfl
theorem name_size (I : List UInt8) : (nameOf I).size = I.length + 14 := by
  rw [name_bytes, bytes_size]; simp [pre]
theorem name_ne (I : List UInt8) (hI : 1 ≤ I.length) (l : List UInt8) (hl : l.length ≤ 14) : ((nameOf I).toList == l) = false := by
  rw [name_bytes, bytes_toList, beq_eq_false_iff_ne]
  intro e
  have := congrArg List.length e
  simp [pre] at this
  omega
theorem name_pre (I : List UInt8) : (((nameOf I).extract 0 13).toList == [108, 101, 97, 112, 76, 105, 110, 101, 75, 105, 110, 100, 40]) = true := by
  rw [name_bytes, extract_bytes, bytes_toList]
  simp [pre]
theorem name_last (I : List UInt8) (h : (nameOf I).size - 1 < (nameOf I).size) : (((nameOf I)[(nameOf I).size - 1]'h).toNat : Int) = 41 := by
  have e : (nameOf I)[(nameOf I).size - 1]'h = 41 := by
    have hs := name_size I
    have := bytes_at (pre ++ I ++ [41]) ((nameOf I).size - 1) h
    rw [show (nameOf I)[(nameOf I).size - 1]'h = (bytes (pre ++ I ++ [41]))[(nameOf I).size - 1]'h from rfl, this, List.getElem_append_right (by simp [pre]; omega)]
    simp
  rw [e]; rfl
theorem name_body (I : List UInt8) : (nameOf I).extract 13 ((nameOf I).size - 1) = bytes I := by
  rw [name_size, name_bytes, extract_bytes]
  congr 1
  rw [show pre ++ I ++ [41] = pre ++ (I ++ [41]) from by simp, List.drop_left' (by rfl), show I.length + 14 - 1 - 13 = I.length from by omega]
  exact List.take_left

/-- The value of the first k digits. -/
def V (u : Nat) (k : Nat) : Int := (val ((Lib.decDigits u).take k) : Nat)
theorem V_zero (u : Nat) : V u 0 = 0 := by simp [V, val]
theorem V_all (u : Nat) : V u (bytes (Lib.decDigits u)).size = u := by
  unfold V
  rw [bytes_size, List.take_of_length_le (Nat.le_refl _), dec_val]
theorem V_step (u : Nat) (k : Nat) (h : k < (bytes (Lib.decDigits u)).size) :
    0 ≤ V u k ∧ 48 ≤ ((bytes (Lib.decDigits u))[k].toNat : Int) ∧ ((bytes (Lib.decDigits u))[k].toNat : Int) ≤ 57 ∧ V u (k + 1) = V u k * 10 + (((bytes (Lib.decDigits u))[k].toNat : Int) - 48) ∧ V u (k + 1) ≤ u := by
  have hk : k < (Lib.decDigits u).length := by rw [← bytes_size]; exact h
  have e := bytes_at (Lib.decDigits u) k h
  have hd := dec_dig u _ (List.getElem_mem hk)
  have hs : val ((Lib.decDigits u).take (k + 1)) = val ((Lib.decDigits u).take k) * 10 + ((Lib.decDigits u)[k].toNat - 48) := by
    rw [List.take_succ_eq_append_getElem hk, val_snoc]
  have hle := val_take_le (Lib.decDigits u) (k + 1) (by omega)
  rw [dec_val] at hle
  rw [e]
  unfold V
  refine ⟨by omega, by omega, by omega, ?_, by omega⟩
  rw [hs]; omega
theorem lead (u : Nat) (h : 0 < (bytes (Lib.decDigits u)).size) : (1 < (bytes (Lib.decDigits u)).size ∧ (((bytes (Lib.decDigits u))[0].toNat : Int) == 48) = false) ∨ (bytes (Lib.decDigits u)).size ≤ 1 := by
  by_cases h1 : 1 < (bytes (Lib.decDigits u)).size
  · left
    refine ⟨h1, ?_⟩
    obtain ⟨c, hc, hne⟩ := dec_lead u (by rw [← bytes_size]; exact h1)
    rw [bytes_at]
    have : (Lib.decDigits u)[0]'(by rw [← bytes_size]; exact h) = c := by
      have := List.getElem?_eq_some_iff.1 hc
      exact this.2
    rw [this, beq_eq_false_iff_ne]
    omega
  · right; omega
theorem head_dig (u : Nat) (h : 0 < (bytes (Lib.decDigits u)).size) : (((bytes (Lib.decDigits u))[0].toNat : Int) == 45) = false := by
  have := V_step u 0 h
  rw [beq_eq_false_iff_ne]
  omega
theorem bytes_ne (l : List UInt8) (h : 1 ≤ l.length) : ¬ bytes l = ByteArray.empty := by
  intro e
  have := congrArg ByteArray.size e
  rw [bytes_size] at this
  have h2 : ByteArray.empty.size = 0 := rfl
  omega
theorem size_ne (l : List UInt8) (h : 1 ≤ l.length) : (((bytes l).size : Int) == 0) = false := by
  rw [bytes_size, beq_eq_false_iff_ne]; omega

theorem parse_name (n : Int) (h0 : -9223372036854775808 ≤ n) (h1 : n ≤ 9223372036854775807) (w : World) :
    Calls Tryd.prog 5 #[.string (nameOf (Lib.itoa n))] w fun e w' => e = .returned (.tuple #[.int .i64 n, .bool true]) ∧ w' = w := by
  by_cases hn : 0 ≤ n
  · obtain ⟨u, rfl⟩ := Int.eq_ofNat_of_zero_le hn
    rw [Lib.itoa_nonneg]
    have hp := dec_pos u
    have hl := dec_len 18 u (by have : (10 : Nat) ^ 19 = 10000000000000000000 := by decide
                                omega)
    have hbs := bytes_size (Lib.decDigits u)
    have hall := V_all u
    refine (parse_pos (nameOf (Lib.decDigits u)) (bytes (Lib.decDigits u)) (V u) w (by rw [name_size]; omega) (by rw [name_size]; omega)
      (name_ne _ hp _ (by decide)) (name_ne _ hp _ (by decide)) (name_ne _ hp _ (by decide)) (name_pre _) (name_last _ _) (name_body _) (by omega) (by omega) (head_dig u _)
      (bytes_ne _ hp) (size_ne _ hp) (lead u _) (V_zero u) (fun k hk => ?_) (by rw [hall]; omega) (by rw [hall]; omega)).mono fun e w' ⟨he, hw⟩ => ⟨?_, hw⟩
    · obtain ⟨a, b, c, d, e⟩ := V_step u k hk
      exact ⟨a, b, c, d, by omega⟩
    · rw [he, hall]
  · obtain ⟨u, rfl⟩ : ∃ u : Nat, n = -(u : Int) := ⟨n.natAbs, by omega⟩
    rw [Lib.itoa_neg u (by omega)]
    have hp := dec_pos u
    have hl := dec_len 18 u (by have : (10 : Nat) ^ 19 = 10000000000000000000 := by decide
                                omega)
    have hbs := bytes_size (Lib.decDigits u)
    have hbs2 := bytes_size (45 :: Lib.decDigits u)
    rw [List.length_cons] at hbs2
    have hall := V_all u
    have hp2 : 1 ≤ (45 :: Lib.decDigits u).length := by simp
    have hD : (bytes (45 :: Lib.decDigits u)).extract 1 (bytes (45 :: Lib.decDigits u)).size = bytes (Lib.decDigits u) := by
      rw [extract_bytes, hbs2]
      congr 1
      simp
    refine (parse_neg (nameOf (45 :: Lib.decDigits u)) (bytes (45 :: Lib.decDigits u)) (bytes (Lib.decDigits u)) (V u) w (by rw [name_size, List.length_cons]; omega) (by rw [name_size, List.length_cons]; omega)
      (name_ne _ hp2 _ (by decide)) (name_ne _ hp2 _ (by decide)) (name_ne _ hp2 _ (by decide)) (name_pre _) (name_last _ _) (name_body _) (by omega) (by omega) (by rw [bytes_at]; rfl)
      hD (by omega) (by omega) (bytes_ne _ hp) (size_ne _ hp) (lead u _) (V_zero u) (fun k hk => ?_) (by rw [hall]; omega) (by rw [hall]; omega)).mono fun e w' ⟨he, hw⟩ => ⟨?_, hw⟩
    · obtain ⟨a, b, c, d, e⟩ := V_step u k hk
      exact ⟨a, b, c, d, by omega⟩
    · rw [he, hall]
end Go.Proofs.Qxb6601479aDoor
