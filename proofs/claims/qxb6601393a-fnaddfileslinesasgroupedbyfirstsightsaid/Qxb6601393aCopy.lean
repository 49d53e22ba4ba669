/- addCopySteps, the bound on the length. -/
import Derived.Test.Qxb6601393aHelp2
import Derived.WalkSpells
namespace Go.Proofs.Qxb6601393a.Smp
open Go.RowKit

theorem info25 : (Try.prog.info? 25).map (fun i => (i.zero, i.size, i.bytes)) = some (some (.agg #[.string ByteArray.empty, .string ByteArray.empty]), 2, 32) := by kernel_rfl

/-- The steps as they came in. -/
def Src (w : World) (a : Option Addr) (ps : Steps) : Prop :=
  ∀ i, i < ps.length → ∃ b o, b < w.heap.size ∧ a = some ⟨b, o, none⟩ ∧ w.cell? ⟨b, o + i * 2, none⟩ = some (.string (pth ps i)) ∧ w.cell? ⟨b, o + i * 2 + 1, none⟩ = some (.string (acp ps i)) ∧ (pth ps i).size ≤ maxLen ∧ (acp ps i).size ≤ maxLen

/-- A row of pairs in the block g: the first m are the steps'. -/
def PRow (w : World) (g n : Nat) (ps : Steps) (m : Nat) : Prop :=
  ∃ xs : List Value, w.ownsRow 0 25 2 (.slice (some ⟨g, 0, none⟩) n n) n xs ∧ ∀ i, i < m → xs[i * 2]? = some (.string (pth ps i)) ∧ xs[i * 2 + 1]? = some (.string (acp ps i))
theorem PRow.start {w : World} {B g n : Nat} (ps : Steps) {xs : List Value} (h : w.ownsRow B 25 2 (.slice (some ⟨g, 0, none⟩) n n) n xs) : PRow w g n ps 0 := by
  refine ⟨xs, ⟨h.1, ?_⟩, fun i hi => by omega⟩
  rcases h.2 with h' | ⟨g', cap, cur, h1, _, r⟩
  · exact .inl h'
  · exact .inr ⟨g', cap, cur, h1, Nat.zero_le _, r⟩
section
variable {w : World} {g n m : Nat} {ps : Steps}
theorem PRow.any (h : PRow w g n ps m) (i : Nat) (h2 : i < n * 2) : ∃ x : Value, w.cell? ⟨g, i, none⟩ = some x := by
  obtain ⟨xs, ho, hr⟩ := h
  have hl : xs.length = n * 2 := ho.1
  exact ⟨_, by rw [ho.cellAt i h2]; exact List.getElem?_eq_getElem (by omega)⟩
theorem PRow.free (h : PRow w g n ps m) (i : Nat) : w.frozen? ⟨g, i, none⟩ = false := by
  obtain ⟨rs, ho, _⟩ := h
  exact ho.frozenAt i
theorem PRow.put (h : PRow w g n ps m) (hm : m < n) : PRow ((w.setCell ⟨g, m * 2, none⟩ (.string (pth ps m))).setCell ⟨g, m * 2 + 1, none⟩ (.string (acp ps m))) g n ps (m + 1) := by
  obtain ⟨xs, ho, hrs⟩ := h
  have hl : xs.length = n * 2 := ho.1
  refine ⟨_, ((ho.stored (m * 2) _).1.stored (m * 2 + 1) _).1, fun i h2 => ?_⟩
  by_cases e : i = m
  · subst e
    constructor
    · rw [List.getElem?_set_ne (by omega), List.getElem?_set_self (by omega)]
    · rw [List.getElem?_set_self (by simp; omega)]
  · obtain ⟨h3, h4⟩ := hrs i (by omega)
    constructor
    · rw [List.getElem?_set_ne (by omega), List.getElem?_set_ne (by omega)]; exact h3
    · rw [List.getElem?_set_ne (by omega), List.getElem?_set_ne (by omega)]; exact h4
theorem PRow.cp {B : Nat} (h : PRow w g ps.length ps ps.length) (hg : g < B) : Cp w B (some ⟨g, 0, none⟩) ps := by
  obtain ⟨xs, ho, hrs⟩ := h
  intro i hi
  obtain ⟨h3, h4⟩ := hrs i hi
  exact ⟨g, hg, rfl, by rw [ho.cellAt _ (by omega)]; exact h3, by rw [ho.cellAt _ (by omega)]; exact h4⟩
theorem PRow.lt (h : PRow w g n ps m) : g < w.heap.size := by
  obtain ⟨xs, ho, _⟩ := h
  exact (ho.lt g rfl).2
end

set_option maxHeartbeats 1600000 in
theorem copy_any (w : World) (b o cap : Nat) (ps : Steps) (hc : Src w (some ⟨b, o, none⟩) ps) (hn : ps.length ≤ 4096) :
    Calls Try.prog 6 #[.slice (some ⟨b, o, none⟩) ps.length cap] w fun e w' => e = .returned (.slice (some ⟨w.heap.size, 0, none⟩) ps.length ps.length) ∧ Cp w' w'.heap.size (some ⟨w.heap.size, 0, none⟩) ps ∧ Below w.heap.size w w' := by
  have HC := Hid.of hc
  clear hc
  obtain ⟨n, HN⟩ : ∃ n, Hid (ps.length = n) := ⟨_, rfl⟩
  rw [HN.out] at hn ⊢
  obtain ⟨i0, hi, hz0, hz1, hz2⟩ := info_parts info25
  have hq := fun wx => Lib.run_eql_slice_nil (P := Try.prog) wx 22 25 (some ⟨b, o, none⟩) n cap 0 0 Try.underlying22
  go_enter Try.func6, Try.ntmps6
  go_wp2_with (first | (at_make; refine wpList_make_full _ rfl _ _ 22 rfl w.heap.size 25 i0 _ 2 Try.underlying22 hi hz0 hz1 .i64 .i64 _ _ n rfl rfl rfl rfl (by rw [hz2]; omega) (by unfold maxLen; omega) (Nat.le_refl _) ?_; intro w1 hown1 hgrow1; have hrr := PRow.start ps hown1; have hb1 := made_below hgrow1; clear hown1 hgrow1))
  clear hq
  go_loopw [4] (fun x wr => ∃ i : Nat, i ≤ n ∧ x = .int .i64 i ∧ PRow wr w.heap.size n ps i ∧ Below w.heap.size w wr) (fun x _ => n - (intOf x).toNat)
  case atStart => exact ⟨0, Nat.zero_le _, rfl, hrr, hb1⟩
  case round =>
    clear hrr hb1
    obtain ⟨i, hi, rfl, hrr, hb⟩ := hrel
    by_cases hlt : i < n
    · obtain ⟨b', o', hbl, hbb, ci, di, _, _⟩ := HC.out i (by rw [HN.out]; exact hlt)
      simp only [Option.some.injEq, Addr.mk.injEq, and_true] at hbb
      obtain ⟨rfl, rfl⟩ := hbb
      have ei := (hb.cell (p := ⟨b, o + i * 2, none⟩) hbl).trans ci
      have ei' := (hb.cell (p := ⟨b, o + i * 2 + 1, none⟩) hbl).trans di
      obtain ⟨y0, hy0⟩ := hrr.any (i * 2) (by omega)
      obtain ⟨y1, hy1⟩ := hrr.any (i * 2 + 1) (by omega)
      have f0 := hrr.free (i * 2)
      have f1 := hrr.free (i * 2 + 1)
      clear ci di
      go_wp2
      go_roundw
      case rel => exact ⟨i + 1, by omega, by go_num, hrr.put hlt, (hb.setCell (Nat.le_refl _) _).setCell (Nat.le_refl _) _⟩
      case measure => simp [intOf]; omega
    · obtain rfl : i = n := by omega
      go_wp2
      go_ret
      refine ⟨rfl, ?_, hb⟩
      rw [← HN.out] at hrr
      exact hrr.cp hrr.lt

theorem copy_nil (w : World) : Calls Try.prog 6 #[.slice none 0 0] w fun e w' => e = .returned (.slice none 0 0) ∧ w = w' := by
  have hq := fun wx => Lib.run_eql_slice_nil (P := Try.prog) wx 22 25 none 0 0 0 0 Try.underlying22
  go_enter Try.func6, Try.ntmps6
  go_wp2
  go_ret
  exact ⟨rfl, rfl⟩

def AnyBool (e : Ending) : Prop := ∃ v, e = .returned (.bool v)

set_option maxHeartbeats 1600000 in
theorem bytes_any (w : World) (a : Option Addr) (cap : Nat) (ps : Steps) (hc : Src w a ps) (hn : ps.length ≤ maxLen) :
    Calls Try.prog 5 #[.slice a ps.length cap] w fun e w' => AnyBool e ∧ Below w.heap.size w w' := by
  have HC := Hid.of hc
  clear hc
  obtain ⟨n, HN⟩ : ∃ n, Hid (ps.length = n) := ⟨_, rfl⟩
  rw [HN.out] at hn ⊢
  unfold maxLen at hn
  by_cases h1 : n ≤ 1048576
  · go_enter Try.func5, Try.ntmps5
    go_wp2
    go_loop [3, 4] (fun z i => ∃ q zz : Nat, q ≤ n ∧ zz ≤ 1048576 ∧ z = .int .i64 zz ∧ i = .int .i64 q) (fun _ i => n - (intOf i).toNat)
    case atStart => exact ⟨0, n, Nat.zero_le _, h1, rfl, rfl⟩
    case round =>
      obtain ⟨q, z, hq, hz, rfl, rfl⟩ := hrel
      by_cases hlt : q < n
      · obtain ⟨b, o, hbl, rfl, ci, di, hl1, hl2⟩ := HC.out q (by rw [HN.out]; exact hlt)
        obtain ⟨s, HS⟩ : ∃ s, Hid (pth ps q = s) := ⟨_, rfl⟩
        obtain ⟨t, HT⟩ : ∃ t, Hid (acp ps q = t) := ⟨_, rfl⟩
        rw [HS.out] at ci hl1
        rw [HT.out] at di hl2
        unfold maxLen at hl1 hl2
        by_cases p1 : s.size ≤ 1048576
        · by_cases p2 : z + s.size ≤ 1048576
          · by_cases p3 : t.size ≤ 1048576
            · by_cases p4 : z + s.size + t.size ≤ 1048576
              · go_wp2
                go_round
                case rel => exact ⟨q + 1, z + s.size + t.size, by omega, p4, by go_num, by go_num⟩
                case measure => simp [intOf]; omega
              · go_wp2
                go_ret
                exact ⟨⟨_, rfl⟩, Below.refl _ _⟩
            · go_wp2
              go_ret
              exact ⟨⟨_, rfl⟩, Below.refl _ _⟩
          · go_wp2
            go_ret
            exact ⟨⟨_, rfl⟩, Below.refl _ _⟩
        · go_wp2
          go_ret
          exact ⟨⟨_, rfl⟩, Below.refl _ _⟩
      · go_wp2
        go_ret
        exact ⟨⟨_, rfl⟩, Below.refl _ _⟩
  · go_enter Try.func5, Try.ntmps5
    go_wp2
    go_ret
    exact ⟨⟨_, rfl⟩, Below.refl _ _⟩
end Go.Proofs.Qxb6601393a.Smp
