/- FnLeapLineKindStringRoundTrips: the walk. -/
import Derived.Test.Qxb6601479aDoorName
namespace Go.Proofs.Qxb6601479aDoor
open Go.RowKit Go.Sort

theorem zzstring_any (n : Int) (h0 : -9223372036854775808 ≤ n) (h1 : n ≤ 9223372036854775807) (w : World) (htab : Lib.TabIs Tryd.prog w powName .u64 Lib.pow10Tab) (hn : ¬ (0 ≤ n ∧ n ≤ 2)) :
    Calls Tryd.prog 4 #[.int .i64 n] w fun e w' => e = .returned (.string (nameOf (Lib.itoa n))) ∧ Below w.heap.size w w' := by
  have HC := Hid.of (string_any n h0 h1 w htab hn)
  obtain ⟨S, HS⟩ : ∃ S, Hid (nameOf (Lib.itoa n) = S) := ⟨_, rfl⟩
  rw [HS.out] at HC
  rw [HS.out]
  clear htab hn
  go_enter Tryd.func4, Tryd.ntmps4
  go_wp2_with (first | (go_at_call 6; refine HC.out.mono ?_; rintro e w1 ⟨rfl, hb⟩))
  go_ret
  exact ⟨rfl, hb⟩

theorem top_big (n : Int) (h0 : -9223372036854775808 ≤ n) (h1 : n ≤ 9223372036854775807) (w : World) (htab : Lib.TabIs Tryd.prog w powName .u64 Lib.pow10Tab) (hn : ¬ (0 ≤ n ∧ n ≤ 2)) :
    Calls Tryd.prog 3 #[.int .i64 n] w fun e w' => e = .returned (.bool true) ∧ Below w.heap.size w w' := by
  have HC := Hid.of (zzstring_any n h0 h1 w htab hn)
  have HP := Hid.of (fun w => parse_name n h0 h1 w)
  obtain ⟨S, HS⟩ : ∃ S, Hid (nameOf (Lib.itoa n) = S) := ⟨_, rfl⟩
  rw [HS.out] at HC HP
  clear htab hn
  go_enter Tryd.func3, Tryd.ntmps3
  go_wp2_with (first | (go_at_call 4; refine HC.out.mono ?_; rintro e w1 ⟨rfl, hb⟩) | (go_at_call 5; refine (HP.out _).mono ?_; rintro e w2 ⟨rfl, hw⟩; subst hw))
  go_ret
  exact ⟨by simp, hb⟩

set_option maxHeartbeats 800000 in
theorem top_small (n : Int) (w : World) (h0 : 0 ≤ n) (h2 : n ≤ 2) :
    Calls Tryd.prog 3 #[.int .i64 n] w fun e w' => e = .returned (.bool true) ∧ Below w.heap.size w w' := by
  rcases (show n = 0 ∨ n = 1 ∨ n = 2 by omega) with rfl | rfl | rfl
  · clear h0 h2
    go_enter Tryd.func3, Tryd.ntmps3
    go_wp2
    go_ret
    exact ⟨rfl, Below.refl _ _⟩
  · clear h0 h2
    go_enter Tryd.func3, Tryd.ntmps3
    go_wp2
    go_ret
    exact ⟨rfl, Below.refl _ _⟩
  · clear h0 h2
    go_enter Tryd.func3, Tryd.ntmps3
    go_wp2
    go_ret
    exact ⟨rfl, Below.refl _ _⟩

theorem walk (n : Int) (h0 : -9223372036854775808 ≤ n) (h1 : n ≤ 9223372036854775807) (w : World) (htab : Lib.TabIs Tryd.prog w powName .u64 Lib.pow10Tab) :
    Calls Tryd.prog 3 #[.int .i64 n] w fun e w' => e = .returned (.bool true) ∧ Below w.heap.size w w' := by
  by_cases hn : 0 ≤ n ∧ n ≤ 2
  · exact top_small n w hn.1 hn.2
  · exact top_big n h0 h1 w htab hn
end Go.Proofs.Qxb6601479aDoor
