/- (leapLineKind).String: the walk. -/
import Derived.Test.Qxb6601479aDoorRows
import Derived.Test.Qxb6601479aDoorShelf
import Derived.WalkKit
import Derived.WalkLawsBesides
import Derived.WalkSpells
import Derived.Lib.ItoaLen
namespace Go.Proofs.Qxb6601479aDoor
open Go.RowKit Go.Lib Go.Sort

/-- The name of the table that strconv.Itoa reads. -/
def powName : String := Rows.fnLeapLineKindStringRoundTripsRow.named.getD 0 ""
theorem itoa_any (n : Int) (h0 : -9223372036854775808 ≤ n) (h1 : n ≤ 9223372036854775807) (w : World) (htab : Lib.TabIs Tryd.prog w powName .u64 Lib.pow10Tab) :
    Calls Tryd.prog 7 #[.int .i64 n] w fun e w' => e = .returned (.string ⟨(Lib.itoa n).toArray⟩) ∧ ∃ k os, w' = grow (w.drewN k) os :=
  Any.strconv_Itoa Tryd.laysM171 n h0 h1 w htab
theorem Hid.of {p : Prop} (h : p) : Hid p := h
theorem below_grow (w : World) (k : Nat) (os : Array Obj) : Below w.heap.size w (grow (w.drewN k) os) := by
  refine ⟨rfl, rfl, rfl, ?_, fun i hi => ?_⟩
  · show w.heap.size ≤ (w.heap ++ os).size
    simp
  · show (w.heap ++ os)[i]? = w.heap[i]?
    rw [Array.getElem?_append_left hi]

/-- The name that the fallback writes for n, its digits (and sign) the list I. -/
def nameOf (I : List UInt8) : ByteArray := ⟨([108, 101, 97, 112, 76, 105, 110, 101, 75, 105, 110, 100, 40] ++ I ++ [41]).toArray⟩
theorem name_eq (I : List UInt8) : (⟨#[108, 101, 97, 112, 76, 105, 110, 101, 75, 105, 110, 100, 40]⟩ : ByteArray) ++ ⟨I.toArray⟩ ++ ⟨#[41]⟩ = nameOf I := by
  apply ByteArray.ext
  rw [ByteArray.data_append, ByteArray.data_append]
  simp [nameOf]
theorem ret_str {a b : ByteArray} (h : a = b) : Ending.returned (.string a) = .returned (.string b) := by rw [h]

set_option maxHeartbeats 800000 in
theorem string_any (n : Int) (h0 : -9223372036854775808 ≤ n) (h1 : n ≤ 9223372036854775807) (w : World) (htab : Lib.TabIs Tryd.prog w powName .u64 Lib.pow10Tab) (hn : ¬ (0 ≤ n ∧ n ≤ 2)) :
    Calls Tryd.prog 6 #[.int .i64 n] w fun e w' => e = .returned (.string (nameOf (Lib.itoa n))) ∧ Below w.heap.size w w' := by
  have HT := Hid.of htab
  have b0 : (n == 0) = false := by rw [beq_eq_false_iff_ne]; omega
  have b1 : (n == 1) = false := by rw [beq_eq_false_iff_ne]; omega
  have b2 : (n == 2) = false := by rw [beq_eq_false_iff_ne]; omega
  clear htab
  obtain ⟨I, HI⟩ : ∃ I, Hid (Lib.itoa n = I) := ⟨_, rfl⟩
  have HC := Hid.of (itoa_any n h0 h1 w HT.out)
  have hlen := Lib.itoa_length_le n h0 h1
  rw [HI.out] at HC hlen
  rw [HI.out]
  go_enter Tryd.func6, Tryd.ntmps6
  go_wp2_with (first | (go_at_call 7; refine HC.out.mono ?_; rintro e w1 ⟨rfl, k, os, hw⟩; have hb := hw.symm ▸ below_grow w k os; clear hw))
  go_ret
  exact ⟨ret_str (name_eq I), hb⟩
end Go.Proofs.Qxb6601479aDoor
