/- The plain mathematics of 'padding': lists of bytes and numbers; no Go in sight (the model's own 'Utf8.decode' apart). -/
import Derived.Laws.RangeAny
import Derived.Lib.DecodeN
namespace Go.Proofs.Qxb6601384a.Pad

/-- Does the byte b stand in l? -/
def hasB (l : List UInt8) (b : Int) : Bool := l.any fun c => (c.toNat : Int) == b
/-- The pad behind the flags l, p before them. -/
def padStep (p : Int) (c : UInt8) : Int := if (c.toNat : Int) = 95 then 32 else if (c.toNat : Int) = 48 then 48 else p
def padP (p : Int) (l : List UInt8) : Int := l.foldl padStep p
def widStep (p : Int) (c : UInt8) : Int := if (c.toNat : Int) = 45 then 0 else p
def widP (p : Int) (l : List UInt8) : Int := l.foldl widStep p

/-- The width that padding begins with: the directive's own if it bears one. -/
def dirW (dw w1 : Int) : Int := if 0 ≤ dw then dw else w1
theorem dirW_pos (dw w1 : Int) (h : 0 ≤ dw) : dirW dw w1 = dw := if_pos h
theorem dirW_neg (dw w1 : Int) (h : ¬ 0 ≤ dw) : dirW dw w1 = w1 := if_neg h

theorem take_snoc (s : ByteArray) (k : Nat) (h : k < s.size) : s.data.toList.take (k + 1) = s.data.toList.take k ++ [s[k]] := by
  rw [List.take_succ_eq_append_getElem (by simpa using h)]; rfl
theorem drop_cons (s : ByteArray) (k : Nat) (h : k < s.size) : s.data.toList.drop k = s[k] :: s.data.toList.drop (k + 1) := by
  rw [List.drop_eq_getElem_cons (by simpa using h)]; rfl

theorem hasB_snoc (l : List UInt8) (c : UInt8) (b : Int) : hasB (l ++ [c]) b = (hasB l b || ((c.toNat : Int) == b)) := by simp [hasB]
theorem hasB_mem (l : List UInt8) (b : Int) (c : UInt8) (hm : c ∈ l) (h : ((c.toNat : Int) == b) = true) : hasB l b = true := by
  simp only [hasB, List.any_eq_true]; exact ⟨c, hm, h⟩

theorem widP_eq (l : List UInt8) (p : Int) : widP p l = if hasB l 45 then 0 else p := by
  induction l generalizing p with
  | nil => simp [widP, hasB]
  | cons c l ih =>
    have e : widP p (c :: l) = widP (widStep p c) l := rfl
    rw [e, ih]
    by_cases h : (c.toNat : Int) = 45
    · simp [widStep, hasB, h]
    · simp [widStep, hasB, h]

theorem padP_snoc (l : List UInt8) (p : Int) (c : UInt8) : padP p (l ++ [c]) = padStep (padP p l) c := by simp [padP]

/-- A byte of 128 or more turns nothing. -/
theorem padStep_high (p : Int) (c : UInt8) (h : 128 ≤ c.toNat) : padStep p c = p := by
  unfold padStep; rw [if_neg (by omega), if_neg (by omega)]
theorem widStep_high (p : Int) (c : UInt8) (h : 128 ≤ c.toNat) : widStep p c = p := by
  unfold widStep; rw [if_neg (by omega)]

/-- The bytes of one rune that is no ASCII: each is 128 or more, and they lie in the string. -/
theorem decode_bytes (s : ByteArray) (pos : Nat) (h : pos < s.size) (ha : 128 ≤ (s[pos]'h).toNat) :
    pos + (Utf8.decode s pos).2 ≤ s.size ∧ ∀ j, j < (Utf8.decode s pos).2 → 128 ≤ (s.get! (pos + j)).toNat := by
  have e0 : s.get! pos = s[pos]'h := get_at s pos h
  rw [Lib.decode_at, e0]
  have hn : ¬ (s[pos]'h).toNat < 128 := by omega
  simp only [Lib.decodeN, hn, if_false]
  have z : s.get! (pos + 0) = s[pos]'h := get_at s pos h
  split
  · rename_i hc
    split
    · refine ⟨by simp only []; omega, fun j hj => ?_⟩
      simp only [] at hj
      match j, hj with
      | 0, _ => rw [z]; omega
      | 1, _ => omega
    · refine ⟨by simp only []; omega, fun j hj => ?_⟩
      simp only [] at hj
      obtain rfl : j = 0 := by omega
      rw [z]; omega
  · split
    · rename_i hc
      split
      · refine ⟨by simp only []; omega, fun j hj => ?_⟩
        simp only [] at hj
        match j, hj with
        | 0, _ => rw [z]; omega
        | 1, _ => omega
        | 2, _ => omega
      · refine ⟨by simp only []; omega, fun j hj => ?_⟩
        simp only [] at hj
        obtain rfl : j = 0 := by omega
        rw [z]; omega
    · split
      · rename_i hc
        split
        · refine ⟨by simp only []; omega, fun j hj => ?_⟩
          simp only [] at hj
          match j, hj with
          | 0, _ => rw [z]; omega
          | 1, _ => omega
          | 2, _ => omega
          | 3, _ => omega
        · refine ⟨by simp only []; omega, fun j hj => ?_⟩
          simp only [] at hj
          obtain rfl : j = 0 := by omega
          rw [z]; omega
      · refine ⟨by simp only []; omega, fun j hj => ?_⟩
        simp only [] at hj
        obtain rfl : j = 0 := by omega
        rw [z]; omega

theorem getb (s : ByteArray) (k : Nat) (h : k < s.size) : s.get! k = s[k]'h := get_at s k h

/-- n bytes of 128 or more are passed over. -/
theorem skip_high (s : ByteArray) (pos n : Nat) (hn : pos + n ≤ s.size) (hh : ∀ j, j < n → 128 ≤ (s.get! (pos + j)).toNat) (p : Int) :
    padP p (s.data.toList.drop pos) = padP p (s.data.toList.drop (pos + n)) ∧ widP p (s.data.toList.drop pos) = widP p (s.data.toList.drop (pos + n)) := by
  induction n with
  | zero => exact ⟨rfl, rfl⟩
  | succ n ih =>
    have := ih (by omega) (fun j hj => hh j (by omega))
    have hb := hh n (by omega)
    rw [getb s (pos + n) (by omega)] at hb
    rw [this.1, this.2, drop_cons s (pos + n) (by omega)]
    have e1 : padP p (s[pos + n]'(by omega) :: s.data.toList.drop (pos + n + 1)) = padP (padStep p (s[pos + n]'(by omega))) (s.data.toList.drop (pos + n + 1)) := rfl
    have e2 : widP p (s[pos + n]'(by omega) :: s.data.toList.drop (pos + n + 1)) = widP (widStep p (s[pos + n]'(by omega))) (s.data.toList.drop (pos + n + 1)) := rfl
    rw [e1, e2, padStep_high _ _ hb, widStep_high _ _ hb]
    exact ⟨rfl, rfl⟩

/-- What one rune does to width and pad: the code point f, the next place q. -/
theorem step_rune (s : ByteArray) (pos : Nat) (h : pos < s.size) (W P : Int) :
    pos + (Utf8.decode s pos).2 ≤ s.size ∧ pos < pos + (Utf8.decode s pos).2 ∧
    padP P (s.data.toList.drop pos) = padP (if ((Utf8.decode s pos).1 : Int) = 95 then 32 else if ((Utf8.decode s pos).1 : Int) = 48 then 48 else P) (s.data.toList.drop (pos + (Utf8.decode s pos).2)) ∧
    widP W (s.data.toList.drop pos) = widP (if ((Utf8.decode s pos).1 : Int) = 45 then 0 else W) (s.data.toList.drop (pos + (Utf8.decode s pos).2)) := by
  by_cases ha : (s[pos]'h).toNat < 128
  · rw [decode_ascii s pos h ha]
    refine ⟨by simp only []; omega, by simp only []; omega, ?_, ?_⟩
    · rw [drop_cons s pos h]; rfl
    · rw [drop_cons s pos h]; rfl
  · have hb := decode_bytes s pos h (by omega)
    have hi := decode_high s pos h (by omega)
    have sk := skip_high s pos _ hb.1 hb.2
    refine ⟨hb.1, by omega, ?_, ?_⟩
    · rw [if_neg (by omega), if_neg (by omega)]; exact (sk P).1
    · rw [if_neg (by omega)]; exact (sk W).2

theorem at_end (s : ByteArray) (pos : Nat) (h : ¬ pos < s.size) : s.data.toList.drop pos = [] := by
  rw [List.drop_eq_nil_iff]
  have : s.data.toList.length = s.size := Array.length_toList
  omega
end Go.Proofs.Qxb6601384a.Pad
