/- zzParseKindName: the walks, over abstract texts; V k: the value of the first k digits. -/
import Derived.Test.Qxb6601479aDoorStr
namespace Go.Proofs.Qxb6601479aDoor
open Go.RowKit Go.Sort

theorem ret_ok {a b : Int} (h : a = b) : Ending.returned (.tuple #[.int .i64 a, .bool true]) = .returned (.tuple #[.int .i64 b, .bool true]) := by rw [h]

set_option maxHeartbeats 1600000 in
theorem parse_pos (S B : ByteArray) (V : Nat → Int) (w : World) (h1 : 15 ≤ S.size) (h2 : S.size ≤ 40)
    (e1 : (S.toList == [110, 111, 116, 101]) = false) (e2 : (S.toList == [101, 110, 116, 114, 121]) = false) (e3 : (S.toList == [101, 120, 112, 105, 114, 121]) = false)
    (e4 : ((S.extract 0 13).toList == [108, 101, 97, 112, 76, 105, 110, 101, 75, 105, 110, 100, 40]) = true) (e5 : ((S[S.size - 1]'(by omega)).toNat : Int) = 41)
    (hB : S.extract 13 (S.size - 1) = B) (b1 : 1 ≤ B.size) (b2 : B.size ≤ 19) (c1 : (((B[0]'(by omega)).toNat : Int) == 45) = false)
    (_hne : ¬ B = ByteArray.empty) (hz : ((B.size : Int) == 0) = false) (hlead : (1 < B.size ∧ (((B[0]'(by omega)).toNat : Int) == 48) = false) ∨ B.size ≤ 1)
    (H0 : Hid (V 0 = 0)) (HV : Hid (∀ k (h : k < B.size), 0 ≤ V k ∧ 48 ≤ (B[k].toNat : Int) ∧ (B[k].toNat : Int) ≤ 57 ∧ V (k + 1) = V k * 10 + ((B[k].toNat : Int) - 48) ∧ V (k + 1) ≤ 9223372036854775807))
    (hs0 : 0 ≤ V B.size) (hs1 : V B.size ≤ 9223372036854775807) :
    Calls Tryd.prog 5 #[.string S] w fun e w' => e = .returned (.tuple #[.int .i64 (V B.size), .bool true]) ∧ w' = w := by
  rcases hlead with ⟨g1, g2⟩ | g1
  all_goals
    go_enter Tryd.func5, Tryd.ntmps5
    go_wp2
    go_loop [7, 8] (fun m i => ∃ k : Nat, k ≤ B.size ∧ i = .int .i64 k ∧ m = .int .u64 (V k)) (fun _ i => B.size - (intOf i).toNat)
    case atStart => exact ⟨0, Nat.zero_le _, rfl, by rw [H0.out]⟩
    case round =>
      obtain ⟨k, hk, rfl, rfl⟩ := hrel
      by_cases hlt : k < B.size
      · obtain ⟨v0, v1, v2, v3, v4⟩ := HV.out k hlt
        have v5 : V k * 10 + ((B[k].toNat : Int) - 48) ≤ 9223372036854775807 := by rw [← v3]; exact v4
        have HN : Hid (V (k + 1) = V k * 10 + ((B[k].toNat : Int) - 48)) := v3
        clear v3 v4
        go_wp2
        go_round
        case rel => exact ⟨k + 1, by omega, by go_num, by rw [HN.out]⟩
        case measure => simp [intOf]; omega
      · obtain rfl : k = B.size := by omega
        go_wp2
        go_ret2
        exact ⟨rfl, rfl⟩

set_option maxHeartbeats 1600000 in
theorem parse_neg (S B D : ByteArray) (V : Nat → Int) (w : World) (h1 : 15 ≤ S.size) (h2 : S.size ≤ 40)
    (e1 : (S.toList == [110, 111, 116, 101]) = false) (e2 : (S.toList == [101, 110, 116, 114, 121]) = false) (e3 : (S.toList == [101, 120, 112, 105, 114, 121]) = false)
    (e4 : ((S.extract 0 13).toList == [108, 101, 97, 112, 76, 105, 110, 101, 75, 105, 110, 100, 40]) = true) (e5 : ((S[S.size - 1]'(by omega)).toNat : Int) = 41)
    (hB : S.extract 13 (S.size - 1) = B) (b1 : 1 ≤ B.size) (b2 : B.size ≤ 21) (c1 : (((B[0]'(by omega)).toNat : Int) == 45) = true)
    (hD : B.extract 1 B.size = D) (d1 : 1 ≤ D.size) (d2 : D.size ≤ 19)
    (_hne : ¬ D = ByteArray.empty) (hz : ((D.size : Int) == 0) = false) (hlead : (1 < D.size ∧ (((D[0]'(by omega)).toNat : Int) == 48) = false) ∨ D.size ≤ 1)
    (H0 : Hid (V 0 = 0)) (HV : Hid (∀ k (h : k < D.size), 0 ≤ V k ∧ 48 ≤ (D[k].toNat : Int) ∧ (D[k].toNat : Int) ≤ 57 ∧ V (k + 1) = V k * 10 + ((D[k].toNat : Int) - 48) ∧ V (k + 1) - 1 ≤ 9223372036854775807))
    (hs0 : 1 ≤ V D.size) (hs1 : V D.size - 1 ≤ 9223372036854775807) :
    Calls Tryd.prog 5 #[.string S] w fun e w' => e = .returned (.tuple #[.int .i64 (-(V D.size)), .bool true]) ∧ w' = w := by
  rcases hlead with ⟨g1, g2⟩ | g1
  all_goals
    go_enter Tryd.func5, Tryd.ntmps5
    go_wp2
    go_loop [7, 8] (fun m i => ∃ k : Nat, k ≤ D.size ∧ i = .int .i64 k ∧ m = .int .u64 (V k)) (fun _ i => D.size - (intOf i).toNat)
    case atStart => exact ⟨0, Nat.zero_le _, rfl, by rw [H0.out]⟩
    case round =>
      obtain ⟨k, hk, rfl, rfl⟩ := hrel
      by_cases hlt : k < D.size
      · obtain ⟨v0, v1, v2, v3, v4⟩ := HV.out k hlt
        have v5 : V k * 10 + ((D[k].toNat : Int) - 48) - 1 ≤ 9223372036854775807 := by rw [← v3]; exact v4
        have HN : Hid (V (k + 1) = V k * 10 + ((D[k].toNat : Int) - 48)) := v3
        clear v3 v4
        go_wp2
        go_round
        case rel => exact ⟨k + 1, by omega, by go_num, by rw [HN.out]⟩
        case measure => simp [intOf]; omega
      · obtain rfl : k = D.size := by omega
        go_wp2
        go_ret2
        exact ⟨ret_ok (by omega), rfl⟩
end Go.Proofs.Qxb6601479aDoor
