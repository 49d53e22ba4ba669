/- (*parser).digits and ZZParserDigits. -/
import Derived.Test.Qxb6601452aNext
namespace Go.Proofs.Qxb6601452a.Jcs
open Go.RowKit

theorem dg_ways (z : Int) : (48 ≤ z ∧ z ≤ 57 ∧ isDg z = true) ∨ (48 ≤ z ∧ ¬ z ≤ 57 ∧ isDg z = false) ∨ (¬ 48 ≤ z ∧ isDg z = false) := by
  unfold isDg
  by_cases h1 : 48 ≤ z
  · by_cases h2 : z ≤ 57
    · exact .inl ⟨h1, h2, by simp [h1, h2]⟩
    · exact .inr (.inl ⟨h1, h2, by simp [h2]⟩)
  · exact .inr (.inr ⟨h1, by simp [h1]⟩)

set_option maxHeartbeats 3200000 in
theorem digits_any (w : World) (pb : Nat) (a : Option Addr) (n c : Nat) (p : Nat) (ij : Bool) (zs : List Int) (hd : Dat w pb a n zs) (hp : Pw w w pb a n c p ij) (hn : n ≤ 65536) :
    Calls Try.prog 17 #[.pointer (some ⟨pb, 0, none⟩)] w fun e w' => e = .returned (.bool (decide (p < stop isDg zs p))) ∧ Pw w w' pb a n c (stop isDg zs p : Nat) ij := by
  have HL := Hid.of hd.1
  have h0 := hp.c1
  go_enter Try.func17, Try.ntmps17
  go_wp2
  clear h0
  go_loopw [44] (fun _ wr => ∃ k : Nat, Pw w wr pb a n c k ij ∧ stop isDg zs p = stop isDg zs k ∧ p ≤ k) (fun _ wr => n - posAt wr pb)
  case atStart => exact ⟨p, hp, rfl, Nat.le_refl _⟩
  case round =>
    obtain ⟨k, hw, hst, hpk⟩ := hrel
    have HST := Hid.of hst
    clear hst hp
    have hc0 := hw.c0
    have hc1 := hw.c1
    have hf1 := hw.f1
    by_cases hlt : k < n
    · obtain ⟨g, rfl, hg, hcell⟩ := hd.2 k hlt
      have i1 : (k : Int) < (n : Int) := by omega
      have hz : wr.cell? ⟨g, k, none⟩ = some (.int .u8 (zs.getD k 0)) := (hw.bel.cell (p := ⟨g, k, none⟩) hg).trans hcell
      clear hcell
      obtain ⟨z, HZ⟩ : ∃ z, Hid (zs.getD k 0 = z) := ⟨_, rfl⟩
      rw [HZ.out] at hz
      rcases dg_ways z with ⟨t1, t2, hsp⟩ | ⟨t1, t2, hsp⟩ | ⟨t1, hsp⟩
      · have HY := Hid.of (stop_yes isDg zs k (by rw [HL.out]; exact hlt) (by rw [HZ.out]; exact hsp))
        clear hsp
        go_wp2
        go_quiet (fail)
        go_wp2
        go_roundw
        case rel => exact ⟨k + 1, (hw.drewN _).store _, HST.out.trans HY.out, by omega⟩
        case measure => exact measure_step hw _ hlt
      · have HY := Hid.of (stop_no isDg zs k (by rw [HL.out]; exact hlt) (by rw [HZ.out]; exact hsp))
        have d2 : decide (z ≤ 57) = false := decide_eq_false t2
        clear hsp
        go_wp2
        go_quiet (fail)
        go_wp2
        go_ret
        have e1 : stop isDg zs p = k := HST.out.trans HY.out
        refine ⟨?_, ?_⟩
        · rw [e1]; simp
        · rw [e1]; exact hw.drewN _
      · have HY := Hid.of (stop_no isDg zs k (by rw [HL.out]; exact hlt) (by rw [HZ.out]; exact hsp))
        have d2 : decide (48 ≤ z) = false := decide_eq_false t1
        clear hsp
        go_wp2
        go_quiet (fail)
        go_wp2
        go_ret
        have e1 : stop isDg zs p = k := HST.out.trans HY.out
        refine ⟨?_, ?_⟩
        · rw [e1]; simp
        · rw [e1]; exact hw.drewN _
    · have d1 : decide ((k : Int) < (n : Int)) = false := decide_eq_false (by omega)
      have HY := Hid.of (stop_end isDg zs k (by rw [HL.out]; omega))
      go_wp2
      go_quiet (fail)
      go_wp2
      go_ret
      have e1 : stop isDg zs p = k := HST.out.trans HY.out
      refine ⟨?_, ?_⟩
      · rw [e1]; simp
      · rw [e1]; exact hw.drewN _
end Go.Proofs.Qxb6601452a.Jcs
