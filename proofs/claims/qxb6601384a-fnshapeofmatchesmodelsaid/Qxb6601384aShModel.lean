/- dtb1RunClass, dtb1ModelShape: the model's first loop. -/
import Derived.Test.Qxb6601384aShOf2
namespace Go.Proofs.Qxb6601384a.Sh
open Go.RowKit

theorem ret_int {k : IntKind} {a b : Int} (h : a = b) : Ending.returned (.int k a) = .returned (.int k b) := by rw [h]

theorem cls_ways (c : Int) : (c < 32 ∧ cls c = 0) ∨ (c = 32 ∧ cls c = 3) ∨ ((32 < c ∧ c < 48) ∧ cls c = 0) ∨ ((48 ≤ c ∧ c ≤ 57) ∧ cls c = 2) ∨ ((57 < c ∧ c < 65) ∧ cls c = 0) ∨ ((65 ≤ c ∧ c ≤ 90) ∧ cls c = 1) ∨ ((90 < c ∧ c < 97) ∧ cls c = 0) ∨ ((97 ≤ c ∧ c ≤ 122) ∧ cls c = 1) ∨ (122 < c ∧ cls c = 0) := by
  unfold cls
  by_cases a : (97 ≤ c ∧ c ≤ 122) ∨ (65 ≤ c ∧ c ≤ 90)
  · rw [if_pos a]; omega
  · rw [if_neg a]
    by_cases b : 48 ≤ c ∧ c ≤ 57
    · rw [if_pos b]; omega
    · rw [if_neg b]
      by_cases d : c = 32
      · rw [if_pos d]; omega
      · rw [if_neg d]; omega

set_option maxHeartbeats 800000 in
theorem runClass_any (c : Int) (w : World) :
    Calls Try.prog 16 #[.int .u8 c] w fun e w' => e = .returned (.int .i64 (cls c)) ∧ w' = w := by
  rcases cls_ways c with ⟨h, k⟩ | ⟨h, k⟩ | ⟨⟨h, h'⟩, k⟩ | ⟨⟨h, h'⟩, k⟩ | ⟨⟨h, h'⟩, k⟩ | ⟨⟨h, h'⟩, k⟩ | ⟨⟨h, h'⟩, k⟩ | ⟨⟨h, h'⟩, k⟩ | ⟨h, k⟩
  all_goals
    try subst h
    have K := Hid.of k
    clear k
    go_enter Try.func16, Try.ntmps16
    go_wp2
    go_ret
    exact ⟨ret_int K.out.symm, rfl⟩
end Go.Proofs.Qxb6601384a.Sh
