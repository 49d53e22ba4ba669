/- addFirstSight. -/
import Derived.Test.Qxb6601393aHelp
namespace Go.Proofs.Qxb6601393a.Smp
open Go.RowKit

def upd (f : Nat → Nat) (m u k : Nat) : Nat := if k = m then u else f k
section
variable {w : World} {g n m : Nat} {f : Nat → Nat}
theorem Row.putX (h : Row w g n f m) (hm : m < n) (u : Nat) : Row (w.setCell ⟨g, m, none⟩ (.int .i64 (u : Nat))) g n (upd f m u) (m + 1) := by
  have h' : Row w g n (upd f m u) m := by
    obtain ⟨rs, ho, hrs⟩ := h
    refine ⟨rs, ho, fun i hi => ?_⟩
    rw [hrs i hi]
    by_cases e : i < m
    · rw [if_pos e, if_pos e, upd, if_neg (by omega)]
    · rw [if_neg e, if_neg e]
  exact h'.put hm (by simp [upd])
theorem Row.again {u r : Nat} (h : Row w g n (upd f m u) (m + 1)) (hm : m < n) (hr : f m = r) : Row (w.setCell ⟨g, m, none⟩ (.int .i64 (r : Nat))) g n f (m + 1) := by
  obtain ⟨rs, ho, hrs⟩ := h
  have hl : rs.length = n := by have := ho.1; simpa using this
  refine ⟨rs.set m r, ?_, fun i h2 => ?_⟩
  · have := (ho.stored m (.int .i64 (r : Nat))).1
    rwa [← List.map_set (f := fun x : Nat => Value.int .i64 (x : Nat))] at this
  · by_cases e : i = m
    · subst e; rw [List.getElem?_set_self (by omega), if_pos (by omega), hr]
    · rw [List.getElem?_set_ne (by omega), hrs i h2]
      by_cases h3 : i < m + 1
      · rw [if_pos h3, if_pos h3, upd, if_neg e]
      · rw [if_neg h3, if_neg h3]
theorem Row.stays {u : Nat} (h : Row w g n (upd f m u) (m + 1)) (hr : f m = u) : Row w g n f (m + 1) := by
  obtain ⟨rs, ho, hrs⟩ := h
  refine ⟨rs, ho, fun i h2 => ?_⟩
  rw [hrs i h2]
  by_cases h3 : i < m + 1
  · rw [if_pos h3, if_pos h3, upd]
    by_cases e : i = m
    · rw [if_pos e, e, hr]
    · rw [if_neg e]
  · rw [if_neg h3, if_neg h3]
end
theorem first_is {ps : Steps} {i q : Nat} (hq : q < i) (hno : ∀ j, j < q → same ps j i = false) (h : same ps q i = true) : firstOf ps i = q := by
  rcases first_ways ps i with ⟨h1, h2⟩ | ⟨h1, h2, h3⟩
  · rw [h2 q hq] at h; cases h
  · rcases Nat.lt_trichotomy (firstOf ps i) q with h4 | h4 | h4
    · rw [hno _ h4] at h2; cases h2
    · exact h4
    · rw [h3 q h4] at h; cases h
theorem first_self {ps : Steps} {i : Nat} (hno : ∀ j, j < i → same ps j i = false) : firstOf ps i = i := by
  rcases first_ways ps i with ⟨h1, _⟩ | ⟨h1, h2, h3⟩
  · exact h1
  · rw [hno _ h1] at h2; cases h2

set_option maxHeartbeats 1600000 in
theorem first_any (w : World) (a : Option Addr) (cap : Nat) (ps : Steps) (hc : Cp w w.heap.size a ps) (hn : ps.length ≤ 4096) :
    Calls Try.prog 7 #[.slice a ps.length cap] w fun e w' => e = .returned (.slice (some ⟨w.heap.size, 0, none⟩) ps.length ps.length) ∧ Row w' w.heap.size ps.length (firstOf ps) ps.length ∧ Below w.heap.size w w' := by
  have HC := Hid.of hc
  clear hc
  obtain ⟨n, HN⟩ : ∃ n, Hid (ps.length = n) := ⟨_, rfl⟩
  rw [HN.out] at hn ⊢
  obtain ⟨i3, hi3, hy0, hy1, hy2⟩ := info_parts info3
  go_enter Try.func7, Try.ntmps7
  go_wp2_with (first | (at_make; refine wpList_make_full _ rfl _ _ 27 rfl w.heap.size 3 i3 (.int .i64 0) 1 Try.underlying27 hi3 hy0 hy1 .i64 .i64 _ _ n rfl rfl rfl rfl (by rw [hy2]; omega) (by unfold maxLen; omega) (Nat.le_refl _) ?_; intro w1 hown1 hgrow1; have hrr := Row.start (firstOf ps) hown1; have hb1 := made_below hgrow1; clear hown1 hgrow1))
  go_loopw [5] (fun x wr => ∃ i : Nat, i ≤ n ∧ x = .int .i64 i ∧ Row wr w.heap.size n (firstOf ps) i ∧ Below w.heap.size w wr) (fun x _ => n - (intOf x).toNat)
  case atStart => exact ⟨0, Nat.zero_le _, rfl, hrr, hb1⟩
  case round =>
    clear hrr hb1
    obtain ⟨i, hi, rfl, hrr, hb⟩ := hrel
    by_cases hlt : i < n
    · obtain ⟨g, hg, rfl, ci, di⟩ := HC.out i (by rw [HN.out]; exact hlt)
      obtain ⟨x, hx⟩ := hrr.any i hlt
      have hfz := hrr.free i
      go_wp2
      have hr1 := hrr.putX hlt i
      have hb1 : Below w.heap.size w (wr.setCell ⟨w.heap.size, i, none⟩ (.int .i64 (i : Nat))) := hb.setCell (Nat.le_refl _) _
      clear hx hfz hrr hb
      go_loopw [6] (fun x wr => ∃ q : Nat, q ≤ i ∧ x = .int .i64 q ∧ (∀ j, j < q → same ps j i = false) ∧ Row wr w.heap.size n (upd (firstOf ps) i i) (i + 1) ∧ Below w.heap.size w wr) (fun x _ => i - (intOf x).toNat)
      case atStart => exact ⟨0, Nat.zero_le _, rfl, fun j hj => by omega, hr1, hb1⟩
      case round =>
        clear hr1 hb1
        obtain ⟨q, hq, rfl, hno, hr1, hb⟩ := hrel
        have HNO := Hid.of hno
        clear hno
        by_cases hqi : q < i
        · obtain ⟨g', _, hgg, cq, dq⟩ := HC.out q (by rw [HN.out]; omega)
          obtain rfl : g = g' := by simpa using hgg
          have ei := (hb.cell (p := ⟨g, i * 2, none⟩) hg).trans ci
          have eq := (hb.cell (p := ⟨g, q * 2, none⟩) hg).trans cq
          have ei' := (hb.cell (p := ⟨g, i * 2 + 1, none⟩) hg).trans di
          have eq' := (hb.cell (p := ⟨g, q * 2 + 1, none⟩) hg).trans dq
          have hqn : q < n := by omega
          clear ci cq di dq hgg
          have HNX : same ps q i = false → Hid (∀ j, j < q + 1 → same ps j i = false) := fun hs' => Hid.of fun j hj => by
            by_cases e : j = q
            · rw [e]; exact hs'
            · exact HNO.out j (by omega)
          by_cases hs : ((pth ps q).toList == (pth ps i).toList) = true
          · by_cases ha : ((acp ps q).toList == (acp ps i).toList) = true
            · have HF := Hid.of (first_is hqi HNO.out (show (_ && _) = true by rw [show sameS (pth ps q) (pth ps i) = true from hs, show sameS (acp ps q) (acp ps i) = true from ha]; rfl))
              obtain ⟨x, hx⟩ := hr1.any i hlt
              have hfz := hr1.free i
              go_wp2
              go_quiet (fail)
              go_wp2
              go_roundw
              case rel =>
                have hd : Below w.heap.size w (wr.drewN nq) := hb.trans ⟨rfl, rfl, rfl, Nat.le_refl _, fun _ _ => rfl⟩
                have hk : Row (wr.drewN nq) w.heap.size n (upd (firstOf ps) i i) (i + 1) := hr1.keep rfl
                exact ⟨i + 1, by omega, by go_num, hk.again hlt HF.out, hd.setCell (Nat.le_refl _) _⟩
              case measure => simp [intOf]; omega
            · have ha' : ((acp ps q).toList == (acp ps i).toList) = false := by simpa using ha
              have HX := HNX (show (_ && _) = false by rw [show sameS (acp ps q) (acp ps i) = false from ha', Bool.and_false])
              clear ha HNX
              go_wp2
              go_quiet (fail)
              go_wp2
              go_roundw
              case rel => exact ⟨q + 1, by omega, by go_num, HX.out, hr1, hb.trans ⟨rfl, rfl, rfl, Nat.le_refl _, fun _ _ => rfl⟩⟩
              case measure => simp [intOf]; omega
          · have hs' : ((pth ps q).toList == (pth ps i).toList) = false := by simpa using hs
            have HX := HNX (show (_ && _) = false by rw [show sameS (pth ps q) (pth ps i) = false from hs', Bool.false_and])
            clear hs HNX
            go_wp2
            go_quiet (fail)
            go_wp2
            go_roundw
            case rel => exact ⟨q + 1, by omega, by go_num, HX.out, hr1, hb.trans ⟨rfl, rfl, rfl, Nat.le_refl _, fun _ _ => rfl⟩⟩
            case measure => simp [intOf]; omega
        · obtain rfl : q = i := by omega
          go_wp2
          go_roundw
          case rel => exact ⟨q + 1, by omega, by go_num, hr1.stays (first_self HNO.out), hb⟩
          case measure => simp [intOf]; omega
    · obtain rfl : i = n := by omega
      go_wp2
      go_ret
      exact ⟨rfl, hrr, hb⟩
end Go.Proofs.Qxb6601393a.Smp
