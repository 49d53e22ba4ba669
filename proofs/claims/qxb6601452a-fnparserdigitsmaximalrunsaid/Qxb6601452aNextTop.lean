/- FnParserNextFirstNonSpace: the walk. -/
import Derived.Test.Qxb6601452aNext
namespace Go.Proofs.Qxb6601452a.Jcs
open Go.RowKit

theorem ret_bool {a b : Bool} (h : a = b) : Ending.returned (.bool a) = .returned (.bool b) := by rw [h]
theorem owns_slice {w : World} {B n : Nat} {v : Value} {xs : List Value} (h : w.ownsRow B 5 1 v n xs) : ∃ a c, v = .slice a n c := by
  rcases h.2 with ⟨rfl, rfl⟩ | ⟨g, cap, cur, rfl, _⟩
  · exact ⟨none, 0, rfl⟩
  · exact ⟨_, _, rfl⟩
theorem owns_at {w : World} {B n c : Nat} {a : Option Addr} {xs : List Value} (h : w.ownsRow B 5 1 (.slice a n c) n xs) (k : Nat) (hk : k < n) : ∃ g, a = some ⟨g, 0, none⟩ ∧ g < w.heap.size ∧ w.cell? ⟨g, k, none⟩ = xs[k]? := by
  obtain ⟨g, cap, hv, _, hlt⟩ := h.form (by omega)
  simp only [Value.slice.injEq, true_and] at hv
  obtain ⟨rfl, rfl⟩ := hv
  exact ⟨g, rfl, hlt, h.cellAt k (by omega)⟩
theorem dat_of {w : World} {B n c : Nat} {a : Option Addr} {zs : List Int} (h : w.ownsRow B 5 1 (.slice a n c) n (zs.map (Value.int .u8))) : Dat w w.heap.size a n zs := by
  have hl : zs.length = n := by have := h.1; simpa using this
  refine ⟨hl, fun k hk => ?_⟩
  obtain ⟨g, ha, hg, hc⟩ := owns_at h k hk
  refine ⟨g, ha, hg, ?_⟩
  rw [hc, List.getElem?_map, List.getElem?_eq_getElem (by omega)]
  simp [List.getD, List.getElem?_eq_getElem (show k < zs.length by omega)]
theorem clone2 (a : Option Addr) (len cap : Nat) (zs : List Int) (w : World) (hr : Rd w a len cap zs) (hm : len ≤ 65536) :
    Calls Try.prog 8 #[.slice a len cap] w fun e w' => ∃ a' c', e = .returned (.slice a' len c') ∧ Dat w' w'.heap.size a' len zs ∧ Below w.heap.size w w' :=
  (clone_any a len cap zs w hr hm).mono fun e w' ⟨v, he, ho, hb⟩ => by
    obtain ⟨a', c', rfl⟩ := owns_slice ho
    exact ⟨a', c', he, dat_of ho, hb⟩
theorem Dat.below {w w' : World} {a : Option Addr} {n : Nat} {zs : List Int} (h : Dat w w.heap.size a n zs) (hb : Below w.heap.size w w') : Dat w' w.heap.size a n zs :=
  ⟨h.1, fun k hk => by
    obtain ⟨g, ha, hg, hc⟩ := h.2 k hk
    exact ⟨g, ha, hg, (hb.cell (p := ⟨g, k, none⟩) hg).trans hc⟩⟩

theorem isSpace_any (z : Int) (w : World) : Calls Try.prog 10 #[.int .u8 z] w fun e w' => e = .returned (.bool (isSp z)) ∧ w' = w := by
  rcases sp_ways z with ⟨t1, hsp⟩ | ⟨t1, t2, hsp⟩ | ⟨t1, t2, t3, hsp⟩ | ⟨t1, t2, t3, t4, hsp⟩ | ⟨t1, t2, t3, t4, hsp⟩
  all_goals
    have H := Hid.of hsp
    clear hsp
    go_enter Try.func10, Try.ntmps10
    go_wp2
    go_ret
    exact ⟨ret_bool H.out.symm, rfl⟩
theorem bytes_yes (a : Option Addr) (len cap : Nat) (p : Int) (ij : Bool) (w : World) (h1 : len ≤ 65536) :
    Calls Try.prog 7 #[.slice a len cap, .int .i64 p, .bool ij] w fun e w' => e = .returned (.bool true) ∧ w = w' := by
  go_enter Try.func7, Try.ntmps7
  go_wp2
  go_ret
  exact ⟨rfl, rfl⟩

set_option maxHeartbeats 1600000 in
theorem main_walk (a : Option Addr) (n cap : Nat) (zs : List Int) (p : Nat) (ij : Bool) (w : World) (hr : Rd w a n cap zs) (hn : n ≤ 65536) (hp : (p : Int) ≤ 9223372036854775807) :
    Calls Try.prog 3 #[.slice a n cap, .int .i64 p, .bool ij] w fun e w' => e = .returned (.bool true) ∧ Below w.heap.size w w' := by
  have hl := hr.1
  have d1 : decide ((65536 : Int) < (n : Int)) = false := decide_eq_false (by omega)
  have d2 : decide ((p : Int) < 0) = false := decide_eq_false (by omega)
  have HG := Hid.of (stop_ge isSp zs p)
  have HL := Hid.of hl
  clear hl
  go_enter Try.func3, Try.ntmps3
  go_wp2_with (go_at_call 7; refine (bytes_yes _ _ _ _ _ _ hn).mono ?_; rintro e w' ⟨rfl, hw⟩; subst hw)
  refine (clone2 a n cap zs _ hr hn).mono ?_
  rintro e w1 ⟨a1, c1, rfl, D1, b1⟩
  go_wp2_with fail
  refine (zznext_any _ a1 n c1 p ij zs D1 hn).mono ?_
  rintro e w2 ⟨rfl, b2⟩
  have D2 := D1.below b2
  have hb : Below w.heap.size w w2 := b1.trans (b2.mono b1.size)
  clear D1 b1 b2 hr
  obtain ⟨q, HQ⟩ : ∃ q, Hid (stop isSp zs p = q) := ⟨_, rfl⟩
  rw [HQ.out]
  have hq0 : p ≤ q := by have := HG.out; rwa [HQ.out] at this
  clear HG
  obtain ⟨R, HR⟩ : ∃ R, Hid ((zs[q]?).getD 255 = R) := ⟨_, rfl⟩
  rw [HR.out]
  have d3 : decide (q < p) = false := decide_eq_false (by omega)
  have d4 : (ij != ij) = false := by simp
  have ARM := isSpace_any
  have HA := Hid.of ARM
  clear ARM
  go_wp2
  go_loop [11] (fun i => ∃ k : Nat, p ≤ k ∧ k ≤ q ∧ i = .int .i64 k) (fun i => q - (intOf i).toNat)
  case atStart => exact ⟨p, Nat.le_refl _, hq0, rfl⟩
  case round =>
    obtain ⟨k, hk1, hk2, rfl⟩ := hrel
    by_cases hlt : k < q
    · obtain ⟨hkn, hsp⟩ := stop_all isSp zs p k hk1 (by rw [HQ.out]; exact hlt)
      rw [HL.out] at hkn
      obtain ⟨g, rfl, _, hz⟩ := D2.2 k hkn
      obtain ⟨z, HZ⟩ : ∃ z, Hid (zs.getD k 0 = z) := ⟨_, rfl⟩
      rw [HZ.out] at hz hsp
      have g1 : decide ((n : Int) ≤ (k : Int)) = false := decide_eq_false (by omega)
      go_wp2_with (first | (go_at_call 10; refine (HA.out _ _).mono ?_; rintro e w' ⟨rfl, hw⟩; subst hw))
      go_round
      case rel => exact ⟨k + 1, by omega, by omega, by go_num⟩
      case measure => simp [intOf]; omega
    · obtain rfl : k = q := by omega
      by_cases hqn : k < n
      · have hns : isSp (zs.getD k 0) = false := by
          have h := stop_fails isSp zs p (by rw [HQ.out, HL.out]; exact hqn)
          rwa [HQ.out] at h
        obtain ⟨g, rfl, _, hz⟩ := D2.2 k hqn
        have hRz : zs.getD k 0 = R := by
          have hlz : k < zs.length := by rw [HL.out]; exact hqn
          rw [← HR.out]
          simp [List.getD, List.getElem?_eq_getElem hlz]
        rw [hRz] at hz hns
        clear hRz
        go_wp2_with (first | (go_at_call 10; refine (HA.out _ _).mono ?_; rintro e w' ⟨rfl, hw⟩; subst hw))
        go_ret
        exact ⟨rfl, hb⟩
      · have hR : R = 255 := by rw [← HR.out, List.getElem?_eq_none (by rw [HL.out]; omega)]; rfl
        subst hR
        by_cases hpn : n ≤ p
        · have e1 : stop isSp zs p = p := stop_end isSp zs p (by rw [HL.out]; exact hpn)
          have e2 : ((k : Int) == (p : Int)) = true := by
            have : k = p := by rw [← HQ.out]; exact e1
            simp [this]
          clear e1
          go_wp2
          go_ret
          exact ⟨rfl, hb⟩
        · have e1 := stop_le isSp zs p (by rw [HL.out]; omega)
          have e2 : ((k : Int) == (n : Int)) = true := by
            rw [HQ.out, HL.out] at e1
            have : k = n := by omega
            simp [this]
          clear e1
          go_wp2
          go_ret
          exact ⟨rfl, hb⟩
end Go.Proofs.Qxb6601452a.Jcs
