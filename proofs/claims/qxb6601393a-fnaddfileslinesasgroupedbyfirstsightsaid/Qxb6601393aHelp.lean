/- addPathSeenBefore, addFirstSight. -/
import Derived.Test.Qxb6601393aRead2
import Derived.Test.Qxb6601393aFold
namespace Go.Proofs.Qxb6601393a.Smp
open Go.RowKit

/-- The copied steps lie at the address a, below B. -/
def Cp (w : World) (B : Nat) (a : Option Addr) (ps : Steps) : Prop :=
  ∀ i, i < ps.length → ∃ g, g < B ∧ a = some ⟨g, 0, none⟩ ∧ w.cell? ⟨g, i * 2, none⟩ = some (.string (pth ps i)) ∧ w.cell? ⟨g, i * 2 + 1, none⟩ = some (.string (acp ps i))
theorem Cp.below {w w' : World} {B C : Nat} {a : Option Addr} {ps : Steps} (h : Cp w B a ps) (hb : Below C w w') (hC : B ≤ C) : Cp w' B a ps := by
  intro i hi
  obtain ⟨g, hg, ha, h0, h1⟩ := h i hi
  exact ⟨g, hg, ha, (hb.cell (p := ⟨g, i * 2, none⟩) (Nat.lt_of_lt_of_le hg hC)).trans h0, (hb.cell (p := ⟨g, i * 2 + 1, none⟩) (Nat.lt_of_lt_of_le hg hC)).trans h1⟩

theorem drew_below (w : World) (n : Nat) : Below w.heap.size w (w.drewN n) := (Below.refl _ _).trans ⟨rfl, rfl, rfl, Nat.le_refl _, fun _ _ => rfl⟩

theorem seen_yes {ps : Steps} {i j : Nat} (hj : j < i) (h : ((pth ps j).toList == (pth ps i).toList) = true) : seen ps i = true :=
  (seen_iff ps i).2 ⟨j, hj, (sameS_iff _ _).1 h⟩
theorem seen_no {ps : Steps} {i : Nat} (h : ∀ j, j < i → ((pth ps j).toList == (pth ps i).toList) = false) : seen ps i = false := by
  cases e : seen ps i with
  | false => rfl
  | true =>
    obtain ⟨j, hj, hp⟩ := (seen_iff ps i).1 e
    have := h j hj
    rw [hp] at this
    exact absurd this (by simp)

set_option maxHeartbeats 1600000 in
theorem seen_any (w : World) (a : Option Addr) (cap : Nat) (ps : Steps) (i : Nat) (hc : Cp w w.heap.size a ps) (hi : i < ps.length) (hn : ps.length ≤ 4096) :
    Calls Try.prog 12 #[.slice a ps.length cap, .int .i64 (i : Nat)] w fun e w' => e = .returned (.bool (seen ps i)) ∧ Below w.heap.size w w' := by
  obtain ⟨g, hg, rfl, ci, _⟩ := hc i hi
  have HC := Hid.of hc
  clear hc
  obtain ⟨n, HN⟩ : ∃ n, Hid (ps.length = n) := ⟨_, rfl⟩
  rw [HN.out] at hi hn ⊢
  obtain ⟨v, HV⟩ : ∃ v, Hid (seen ps i = v) := ⟨_, rfl⟩
  rw [HV.out]
  go_enter Try.func12, Try.ntmps12
  go_wp2
  go_loopw [5] (fun x wr => ∃ q : Nat, q ≤ i ∧ x = .int .i64 q ∧ (∀ j, j < q → ((pth ps j).toList == (pth ps i).toList) = false) ∧ Below w.heap.size w wr) (fun x _ => i - (intOf x).toNat)
  case atStart => exact ⟨0, Nat.zero_le _, rfl, fun j hj => by omega, Below.refl _ _⟩
  case round =>
    obtain ⟨q, hq, rfl, hno, hb⟩ := hrel
    have HNO := Hid.of hno
    clear hno
    by_cases hlt : q < i
    · obtain ⟨g', _, hgg, cq, _⟩ := HC.out q (by rw [HN.out]; omega)
      obtain rfl : g = g' := by simpa using hgg
      have ei := (hb.cell (p := ⟨g, i * 2, none⟩) hg).trans ci
      have eq := (hb.cell (p := ⟨g, q * 2, none⟩) hg).trans cq
      clear ci cq hgg
      by_cases hs : ((pth ps q).toList == (pth ps i).toList) = true
      · go_wp2
        go_quiet (fail)
        go_wp2
        go_ret
        obtain rfl : v = true := HV.out.symm.trans (seen_yes hlt hs)
        exact ⟨rfl, hb.trans ⟨rfl, rfl, rfl, Nat.le_refl _, fun _ _ => rfl⟩⟩
      · have hs' : ((pth ps q).toList == (pth ps i).toList) = false := by simpa using hs
        clear hs
        have HX : Hid (∀ j, j < q + 1 → ((pth ps j).toList == (pth ps i).toList) = false) := Hid.of fun j hj => by
          by_cases e : j = q
          · rw [e]; exact hs'
          · exact HNO.out j (by omega)
        go_wp2
        go_quiet (fail)
        go_wp2
        go_roundw
        case rel => exact ⟨q + 1, by omega, by go_num, HX.out, hb.trans ⟨rfl, rfl, rfl, Nat.le_refl _, fun _ _ => rfl⟩⟩
        case measure => simp [intOf]; omega
    · obtain rfl : q = i := by omega
      go_wp2
      go_ret
      obtain rfl : v = false := HV.out.symm.trans (seen_no HNO.out)
      exact ⟨rfl, hb⟩
end Go.Proofs.Qxb6601393a.Smp
