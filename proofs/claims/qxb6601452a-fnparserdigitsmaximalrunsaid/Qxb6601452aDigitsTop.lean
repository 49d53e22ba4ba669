/- ZZParserDigits, FnParserDigitsMaximalRun: the walk. -/
import Derived.Test.Qxb6601452aDigits
import Derived.Test.Qxb6601452aNextTop
namespace Go.Proofs.Qxb6601452a.Jcs
open Go.RowKit

set_option maxHeartbeats 800000 in
theorem zzdigits_any (w : World) (a : Option Addr) (n c : Nat) (p : Nat) (ij : Bool) (zs : List Int) (hd : Dat w w.heap.size a n zs) (hn : n ≤ 65536) :
    Calls Try.prog 13 #[.slice a n c, .int .i64 p, .bool ij] w fun e w' =>
      e = .returned (.tuple #[.bool (decide (p < stop isDg zs p)), .int .i64 (stop isDg zs p : Nat), .slice a n c, .bool ij]) ∧ Below w.heap.size w w' := by
  have hd' := hd.alloc (.cells #[.slice a n c, .int .i64 p, .bool ij] 32)
  have hp := Pw.made w a n c p ij
  clear hd
  obtain ⟨ok, HO⟩ : ∃ ok, Hid (decide (p < stop isDg zs p) = ok) := ⟨_, rfl⟩
  have HC := Hid.of (digits_any _ w.heap.size a n c p ij zs hd' hp hn)
  rw [HO.out] at HC
  rw [HO.out]
  go_enter Try.func13, Try.ntmps13
  go_wp2_with (first | (go_at_call 17; refine HC.out.mono ?_; rintro e w1 ⟨rfl, hq⟩; have q0 := hq.c0; have q1 := hq.c1; have q2 := hq.c2))
  go_quiet (fail)
  go_wp2
  refine bodyPost_ret (v := .tuple #[.bool ok, .int .i64 (stop isDg zs p : Nat), .slice a n c, .bool ij]) (by simp [results, Try.results13, go_sem]) rfl ⟨rfl, ?_⟩
  exact ((Below.refl _ _).alloc (Nat.le_refl _) _).trans (hq.drewN _).bel

theorem isDigit_any (z : Int) (w : World) : Calls Try.prog 14 #[.int .u8 z] w fun e w' => e = .returned (.bool (isDg z)) ∧ w' = w := by
  rcases dg_ways z with ⟨t1, t2, hsp⟩ | ⟨t1, t2, hsp⟩ | ⟨t1, hsp⟩
  · have H := Hid.of hsp
    clear hsp
    have d2 : decide (z ≤ 57) = true := decide_eq_true t2
    go_enter Try.func14, Try.ntmps14
    go_wp2
    go_ret
    exact ⟨ret_bool H.out.symm, rfl⟩
  · have H := Hid.of hsp
    clear hsp
    have d2 : decide (z ≤ 57) = false := decide_eq_false t2
    go_enter Try.func14, Try.ntmps14
    go_wp2
    go_ret
    exact ⟨ret_bool H.out.symm, rfl⟩
  · have H := Hid.of hsp
    clear hsp
    go_enter Try.func14, Try.ntmps14
    go_wp2
    go_ret
    exact ⟨ret_bool H.out.symm, rfl⟩
theorem bytes_yesD (a : Option Addr) (len cap : Nat) (p : Int) (ij : Bool) (w : World) (h1 : len ≤ 65536) :
    Calls Try.prog 12 #[.slice a len cap, .int .i64 p, .bool ij] w fun e w' => e = .returned (.bool true) ∧ w = w' := by
  go_enter Try.func12, Try.ntmps12
  go_wp2
  go_ret
  exact ⟨rfl, rfl⟩

set_option maxHeartbeats 1600000 in
theorem main_walkD (a : Option Addr) (n cap : Nat) (zs : List Int) (p : Nat) (ij : Bool) (w : World) (hr : Rd w a n cap zs) (hn : n ≤ 65536) (hp : (p : Int) ≤ 9223372036854775807) :
    Calls Try.prog 5 #[.slice a n cap, .int .i64 p, .bool ij] w fun e w' => e = .returned (.bool true) ∧ Below w.heap.size w w' := by
  have hl := hr.1
  have d1 : decide ((65536 : Int) < (n : Int)) = false := decide_eq_false (by omega)
  have d2 : decide ((p : Int) < 0) = false := decide_eq_false (by omega)
  have HG := Hid.of (stop_ge isDg zs p)
  have HL := Hid.of hl
  clear hl
  go_enter Try.func5, Try.ntmps5
  go_wp2_with (go_at_call 12; refine (bytes_yesD _ _ _ _ _ _ hn).mono ?_; rintro e w' ⟨rfl, hw⟩; subst hw)
  refine (clone2 a n cap zs _ hr hn).mono ?_
  rintro e w1 ⟨a1, c1, rfl, D1, b1⟩
  go_wp2_with fail
  refine (zzdigits_any _ a1 n c1 p ij zs D1 hn).mono ?_
  rintro e w2 ⟨rfl, b2⟩
  have D2 := D1.below b2
  have hb : Below w.heap.size w w2 := b1.trans (b2.mono b1.size)
  clear D1 b1 b2 hr
  have hmv := stop_moved isDg zs p
  obtain ⟨ok, HO⟩ : ∃ ok, Hid (decide (p < stop isDg zs p) = ok) := ⟨_, rfl⟩
  rw [HO.out] at hmv
  rw [HO.out]
  have HMV := Hid.of hmv
  clear hmv HO
  obtain ⟨q, HQ⟩ : ∃ q, Hid (stop isDg zs p = q) := ⟨_, rfl⟩
  rw [HQ.out]
  have hq0 : p ≤ q := by have := HG.out; rwa [HQ.out] at this
  clear HG
  have d3 : decide (q < p) = false := decide_eq_false (by omega)
  have d4 : (ij != ij) = false := by simp
  have HA := Hid.of isDigit_any
  go_wp2
  go_loop [11] (fun i => ∃ k : Nat, p ≤ k ∧ k ≤ q ∧ i = .int .i64 k) (fun i => q - (intOf i).toNat)
  case atStart => exact ⟨p, Nat.le_refl _, hq0, rfl⟩
  case round =>
    obtain ⟨k, hk1, hk2, rfl⟩ := hrel
    by_cases hlt : k < q
    · obtain ⟨hkn, hsp⟩ := stop_all isDg zs p k hk1 (by rw [HQ.out]; exact hlt)
      rw [HL.out] at hkn
      obtain ⟨g, rfl, _, hz⟩ := D2.2 k hkn
      obtain ⟨z, HZ⟩ : ∃ z, Hid (zs.getD k 0 = z) := ⟨_, rfl⟩
      rw [HZ.out] at hz hsp
      have g1 : decide ((n : Int) ≤ (k : Int)) = false := decide_eq_false (by omega)
      go_wp2_with (first | (go_at_call 14; refine (HA.out _ _).mono ?_; rintro e w' ⟨rfl, hw⟩; subst hw))
      go_round
      case rel => exact ⟨k + 1, by omega, by omega, by go_num⟩
      case measure => simp [intOf]; omega
    · obtain rfl : k = q := by omega
      by_cases hqn : k < n
      · have hns : isDg (zs.getD k 0) = false := by
          have h := stop_fails isDg zs p (by rw [HQ.out, HL.out]; exact hqn)
          rwa [HQ.out] at h
        have hpn : p < n := by omega
        obtain ⟨g, rfl, _, hz⟩ := D2.2 k hqn
        obtain ⟨g', hgg, _, hz2⟩ := D2.2 p hpn
        obtain rfl : g = g' := by simpa using hgg
        clear hgg
        obtain ⟨z, HZ⟩ : ∃ z, Hid (zs.getD k 0 = z) := ⟨_, rfl⟩
        obtain ⟨y, HZ2⟩ : ∃ y, Hid (zs.getD p 0 = y) := ⟨_, rfl⟩
        rw [HZ.out] at hz hns
        rw [HZ2.out] at hz2
        have hok : ok = isDg y := by
          have h := HMV.out
          rw [HL.out, HZ2.out] at h
          simpa [hpn] using h
        subst hok
        go_wp2_with (first | (go_at_call 14; refine (HA.out _ _).mono ?_; rintro e w' ⟨rfl, hw⟩; subst hw))
        go_ret
        exact ⟨by simp, hb⟩
      · have g1 : decide ((k : Int) < (n : Int)) = false := decide_eq_false (by omega)
        by_cases hpn : p < n
        · obtain ⟨g, rfl, _, hz2⟩ := D2.2 p hpn
          obtain ⟨y, HZ2⟩ : ∃ y, Hid (zs.getD p 0 = y) := ⟨_, rfl⟩
          rw [HZ2.out] at hz2
          have hok : ok = isDg y := by
            have h := HMV.out
            rw [HL.out, HZ2.out] at h
            simpa [hpn] using h
          subst hok
          go_wp2_with (first | (go_at_call 14; refine (HA.out _ _).mono ?_; rintro e w' ⟨rfl, hw⟩; subst hw))
          go_ret
          exact ⟨by simp, hb⟩
        · have hok : ok = false := by
            have h := HMV.out
            rw [HL.out] at h
            simpa [hpn] using h
          subst hok
          go_wp2_with (first | (go_at_call 14; refine (HA.out _ _).mono ?_; rintro e w' ⟨rfl, hw⟩; subst hw))
          go_ret
          exact ⟨by simp, hb⟩
end Go.Proofs.Qxb6601452a.Jcs
