/- shapeOf: isLetter, isDigit, the four loops. -/
import Derived.Test.Qxb6601384aShClone
import Derived.Test.Qxb6601384aShPlain
import Derived.Deep.AppendLies
import Derived.Outline
namespace Go.Proofs.Qxb6601384a.Sh
open Go.RowKit

def isL (c : Int) : Bool := decide (cls c = 1)
def isD (c : Int) : Bool := decide (cls c = 2)
theorem ret_bool {a b : Bool} (h : a = b) : Ending.returned (.bool a) = .returned (.bool b) := by rw [h]

theorem or32 : ∀ n : Fin 256, (decide (97 ≤ bits BinOp.or IntKind.u8 ((n.val : Nat) : Int) 32) && decide (bits BinOp.or IntKind.u8 ((n.val : Nat) : Int) 32 ≤ 122)) = isL ((n.val : Nat) : Int) := by decide +kernel
theorem or32' (c : Int) (h0 : 0 ≤ c) (h1 : c ≤ 255) : (decide (97 ≤ bits BinOp.or IntKind.u8 c 32) && decide (bits BinOp.or IntKind.u8 c 32 ≤ 122)) = isL c := by
  have := or32 ⟨c.toNat, by omega⟩
  simp only [Int.toNat_of_nonneg h0] at this
  exact this

theorem isLetter_any (c : Int) (w : World) (h0 : 0 ≤ c) (h1 : c ≤ 255) :
    Calls Try.prog 21 #[.int .u8 c] w fun e w' => e = .returned (.bool (isL c)) ∧ w' = w := by
  have HO := Hid.of (or32' c h0 h1)
  by_cases hb : 97 ≤ bits BinOp.or IntKind.u8 c 32
  · go_enter Try.func21, Try.ntmps21
    go_wp2
    go_ret
    exact ⟨ret_bool (by have h := HO.out; rw [decide_eq_true hb] at h; simpa using h), rfl⟩
  · go_enter Try.func21, Try.ntmps21
    go_wp2
    go_ret
    exact ⟨ret_bool (by have h := HO.out; rw [decide_eq_false (by omega)] at h; simpa using h), rfl⟩
theorem isDigit_any (c : Int) (w : World) :
    Calls Try.prog 22 #[.int .u8 c] w fun e w' => e = .returned (.bool (isD c)) ∧ w' = w := by
  have hD : isD c = (decide (48 ≤ c) && decide (c ≤ 57)) := by
    unfold isD cls
    rw [Bool.eq_iff_iff]
    simp only [decide_eq_true_eq, Bool.and_eq_true]
    split
    · simp; omega
    · split
      · simp; omega
      · split <;> simp <;> omega
  have HO := Hid.of hD
  clear hD
  by_cases h0 : 48 ≤ c
  · go_enter Try.func22, Try.ntmps22
    go_wp2
    go_ret
    exact ⟨ret_bool (by rw [HO.out, decide_eq_true h0]; simp), rfl⟩
  · go_enter Try.func22, Try.ntmps22
    go_wp2
    go_ret
    exact ⟨ret_bool (by rw [HO.out, decide_eq_false (by omega)]; simp), rfl⟩
end Go.Proofs.Qxb6601384a.Sh
