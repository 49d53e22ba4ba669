/- dtb1ModelShape: the walk. -/
import Derived.Test.Qxb6601384aShSteps
namespace Go.Proofs.Qxb6601384a.Sh
open Go.RowKit

theorem made_below2 {w w1 : World} {B : Nat} (h : w.grownBy w1 none) (hB : B < w.heap.size) : Below (B + 1) w w1 := (Below.refl _ _).grown h (by omega) (fun k h => by cases h)

set_option maxHeartbeats 3200000 in
set_option maxRecDepth 100000 in
theorem modelShape_any (s : ByteArray) (w : World) (hs : s.size ≤ 65536) :
    Calls Try.prog 14 #[.string s] w fun e w' => ∃ v', e = .returned v' ∧ w'.ownsRow (w.heap.size + 1) 5 1 v' (sh 0 (nums s)).length ((sh 0 (nums s)).map (Value.int .u8)) ∧ Below w.heap.size w w' := by
  obtain ⟨i3, hi3, hy0, hy1, hy2⟩ := info_parts info3
  obtain ⟨i0, hi, hz0, hz1, hz2⟩ := info_parts info5
  have HNL := Hid.of (nums_length s)
  go_enter Try.func14, Try.ntmps14
  go_wp2_with (first | (at_make; refine wpList_make_full _ rfl _ _ 38 rfl w.heap.size 3 i3 (.int .i64 0) 1 Try.underlying38 hi3 hy0 hy1 .i64 .i64 _ _ (s.size + 1) rfl rfl (by omega) (by omega) (by rw [hy2]; omega) (by unfold maxLen; omega) (Nat.le_refl _) ?_; intro w1 hown1 hgrow1; have hrr := RunRow.start (nums s) hown1; have hb1 := made_below hgrow1; clear hown1 hgrow1))
  go_loopw [5] (fun i wr => ∃ k : Nat, k ≤ s.size ∧ i = .int .i64 ((k : Int) - 1) ∧ RunRow wr w.heap.size w.heap.size s.size (nums s) k ∧ Below w.heap.size w wr) (fun i _ => (intOf i + 1).toNat)
  case atStart => exact ⟨s.size, Nat.le_refl _, rfl, hrr, hb1⟩
  case round =>
    clear hrr hb1
    obtain ⟨k, hk, rfl, hrr, hb⟩ := hrel
    cases k with
    | zero =>
      obtain ⟨wo, rfl⟩ : ∃ wo : World, wo = wr := ⟨_, rfl⟩
      have hlt0 := hrr.lt
      go_wp2_with (first | (at_make; refine wpList_make_own _ rfl _ _ 26 rfl (w.heap.size + 1) 5 i0 (.int .u8 0) 1 Try.underlying26 hi hz0 hz1 .i64 .i64 _ s.size rfl rfl rfl (by rw [hz2]; omega) (by unfold maxLen; omega) (by omega) ?_; intro w2 hown2 hgrow2; have hb2 := made_below2 hgrow2 hlt0; clear hgrow2))
      go_loopw [7, 8] (fun a i wr => ∃ (k : Nat) (pre : List Int), k ≤ s.size ∧ i = .int .i64 k ∧ pre.length ≤ k ∧ wr.ownsRow (w.heap.size + 1) 5 1 a pre.length (pre.map (Value.int .u8)) ∧ Below (w.heap.size + 1) wo wr ∧ pre ++ sh (pc (nums s) k) ((nums s).drop k) = sh 0 (nums s)) (fun _ i _ => s.size - (intOf i).toNat)
      case atStart => exact ⟨0, [], Nat.zero_le _, rfl, Nat.le_refl _, hown2, hb2, rfl⟩
      case round =>
        clear hown2 hb2
        obtain ⟨k, pre, hk, rfl, hpl, hown, hb2, hsh⟩ := hrel
        have HSH := Hid.of hsh
        clear hsh
        have hBr : w.heap.size + 1 ≤ wr.heap.size := Nat.le_trans hlt0 hb2.size
        by_cases hlt : k < s.size
        · have hcell : wr.cell? ⟨w.heap.size, k, none⟩ = some (.int .i64 ((runLen ((nums s).drop k) : Nat) : Int)) := (hb2.cell (p := ⟨w.heap.size, k, none⟩) (Nat.lt_succ_self _)).trans (hrr.cell k (Nat.zero_le _) hlt)
          obtain ⟨m, HM⟩ : ∃ m, Hid (runLen ((nums s).drop k) = m) := ⟨_, rfl⟩
          rw [HM.out] at hcell
          have hm1 : 1 ≤ m := by rw [← HM.out]; exact run_ge _ k (by rw [HNL.out]; exact hlt)
          have hm2 : m ≤ 65536 := by have := runLen_bd s k (by omega); rw [HM.out] at this; omega
          rcases guard_ways s k hlt pre HSH.out with ⟨g1, hz, HE⟩ | ⟨hk0, g1, HE⟩ | ⟨hk0, g1, g2, HX⟩ | ⟨hk0, g1, g2, HE⟩
          · clear HSH
            have HS := symO _ hz.out
            have HM1 := Hid.of (run_other (nums s) k _ (nums_at s k hlt) hz.out)
            have b1 : (cls (s[k].toNat : Int) == 1) = false := by rw [hz.out]; rfl
            have b2 : (cls (s[k].toNat : Int) == 2) = false := by rw [hz.out]; rfl
            have b3 : (cls (s[k].toNat : Int) == 3) = false := by rw [hz.out]; rfl
            go_wp2_with (first | (go_at_call 16; refine (runClass_any _ _).mono ?_; rintro e w' ⟨rfl, hw⟩; subst hw) | (at_builtin; refine wpList_append_lies _ rfl _ _ 26 rfl (w.heap.size + 1) 5 i0 (.int .u8 0) 1 1 Try.underlying26 hi hz0 hz1 hz2 rfl (by decide) _ _ _ rfl (hown.alloc _) ⟨_, 0, none⟩ 1 1 [_] rfl rfl (cell_one_new _ _ _) (by intro u hu; simp at hu; subst hu; rfl) (by decide) (by unfold maxLen; omega) (by omega) (by rw [World.size_alloc]; omega) _ (World.size_alloc _ _) ?_; intro g cap w1 hown1 hgrow1 hat hgl))
            have R := rel_emit HM1 HS HE hpl hown hBr hown1 hgrow1 hb2
            go_roundw
            case rel => exact ⟨k + 1, pre ++ [_], by omega, by go_num, R.1, R.2.1, R.2.2.1, R.2.2.2⟩
            case measure => simp [intOf]; omega
          · clear HSH
            rcases emit_ways (s[k].toNat : Int) m g1 hm1 with ⟨b1, rfl, HS⟩ | ⟨b1, rfl, b2, b3, HS⟩ | ⟨b1, rfl, b2, HS⟩ | ⟨b1, rfl, HS⟩ | ⟨b1, b2, HS⟩ | ⟨b1, b2, b3, HS⟩ | ⟨b1, b2, b3, HS⟩ | ⟨b1, b2, b3, HS⟩
            all_goals
              go_wp2_with (first | (go_at_call 16; refine (runClass_any _ _).mono ?_; rintro e w' ⟨rfl, hw⟩; subst hw) | (at_builtin; refine wpList_append_lies _ rfl _ _ 26 rfl (w.heap.size + 1) 5 i0 (.int .u8 0) 1 1 Try.underlying26 hi hz0 hz1 hz2 rfl (by decide) _ _ _ rfl (hown.alloc _) ⟨_, 0, none⟩ 1 1 [_] rfl rfl (cell_one_new _ _ _) (by intro u hu; simp at hu; subst hu; rfl) (by decide) (by unfold maxLen; omega) (by omega) (by rw [World.size_alloc]; omega) _ (World.size_alloc _ _) ?_; intro g cap w1 hown1 hgrow1 hat hgl))
            all_goals
              have R := rel_emit HM HS HE hpl hown hBr hown1 hgrow1 hb2
              go_roundw
              case rel => exact ⟨k + 1, pre ++ [_], by omega, by go_num, R.1, R.2.1, R.2.2.1, R.2.2.2⟩
              case measure => simp [intOf]; omega
          · clear HSH
            go_wp2_with (first | (go_at_call 16; refine (runClass_any _ _).mono ?_; rintro e w' ⟨rfl, hw⟩; subst hw))
            go_roundw
            case rel => exact ⟨k + 1, pre, by omega, by go_num, by omega, hown, hb2, HX.out⟩
            case measure => simp [intOf]; omega
          · clear HSH
            rcases emit_ways (s[k].toNat : Int) m g1 hm1 with ⟨b1, rfl, HS⟩ | ⟨b1, rfl, b2, b3, HS⟩ | ⟨b1, rfl, b2, HS⟩ | ⟨b1, rfl, HS⟩ | ⟨b1, b2, HS⟩ | ⟨b1, b2, b3, HS⟩ | ⟨b1, b2, b3, HS⟩ | ⟨b1, b2, b3, HS⟩
            all_goals
              go_wp2_with (first | (go_at_call 16; refine (runClass_any _ _).mono ?_; rintro e w' ⟨rfl, hw⟩; subst hw) | (at_builtin; refine wpList_append_lies _ rfl _ _ 26 rfl (w.heap.size + 1) 5 i0 (.int .u8 0) 1 1 Try.underlying26 hi hz0 hz1 hz2 rfl (by decide) _ _ _ rfl (hown.alloc _) ⟨_, 0, none⟩ 1 1 [_] rfl rfl (cell_one_new _ _ _) (by intro u hu; simp at hu; subst hu; rfl) (by decide) (by unfold maxLen; omega) (by omega) (by rw [World.size_alloc]; omega) _ (World.size_alloc _ _) ?_; intro g cap w1 hown1 hgrow1 hat hgl))
            all_goals
              have R := rel_emit HM HS HE hpl hown hBr hown1 hgrow1 hb2
              go_roundw
              case rel => exact ⟨k + 1, pre ++ [_], by omega, by go_num, R.1, R.2.1, R.2.2.1, R.2.2.2⟩
              case measure => simp [intOf]; omega
        · have e : (nums s).drop k = [] := by rw [List.drop_eq_nil_iff, HNL.out]; omega
          have HE : Hid (pre = sh 0 (nums s)) := Hid.of (by have h := HSH.out; rw [e] at h; simpa [sh] using h)
          clear e
          go_wp2
          go_ret
          refine ⟨_, rfl, ?_, hb.trans (hb2.mono (by omega))⟩
          rw [← HE.out]
          exact hown
    | succ q =>
      obtain ⟨x, hx⟩ := hrr.some q (by omega)
      have hfz := hrr.free q
      rcases run_ways s q (by omega) with ⟨h1, HR⟩ | ⟨h1, h2, HR⟩ | ⟨hq1, h1, h2, HR⟩ | ⟨hq1, h1, h2, HR⟩
      · go_wp2_with (first | (go_at_call 16; refine (runClass_any _ _).mono ?_; rintro e w' ⟨rfl, hw⟩; subst hw))
        go_roundw
        case rel => exact ⟨q, by omega, rfl, hrr.put (by omega) HR.out, hb.setCell (Nat.le_refl _) _⟩
        case measure => simp [intOf]
      · go_wp2_with (first | (go_at_call 16; refine (runClass_any _ _).mono ?_; rintro e w' ⟨rfl, hw⟩; subst hw))
        go_roundw
        case rel => exact ⟨q, by omega, rfl, hrr.put (by omega) HR.out, hb.setCell (Nat.le_refl _) _⟩
        case measure => simp [intOf]
      · go_wp2_with (first | (go_at_call 16; refine (runClass_any _ _).mono ?_; rintro e w' ⟨rfl, hw⟩; subst hw))
        go_roundw
        case rel => exact ⟨q, by omega, rfl, hrr.put (by omega) HR.out, hb.setCell (Nat.le_refl _) _⟩
        case measure => simp [intOf]
      · have hx1 := hrr.cell (q + 1) (by omega) (by omega)
        have hbd := runLen_bd s (q + 1) (by omega)
        go_wp2_with (first | (go_at_call 16; refine (runClass_any _ _).mono ?_; rintro e w' ⟨rfl, hw⟩; subst hw))
        go_roundw
        case rel => exact ⟨q, by omega, rfl, hrr.put2 (by omega) HR.out, (hb.setCell (Nat.le_refl _) _).setCell (Nat.le_refl _) _⟩
        case measure => simp [intOf]
end Go.Proofs.Qxb6601384a.Sh
