/- ZZPathPlaces. -/
import Derived.Test.Qxb6601393aRead
import Derived.LaidEqlPtr
namespace Go.Proofs.Qxb6601393a.Smp
open Go.RowKit

theorem Row.put2 {w : World} {g n m : Nat} {f : Nat → Nat} (h : Row w g n f m) (hm : m < n) {r : Nat} (hr : f m = r) (u : Value) : Row ((w.setCell ⟨g, m, none⟩ u).setCell ⟨g, m, none⟩ (.int .i64 (r : Nat))) g n f (m + 1) := by
  obtain ⟨rs, ho, hrs⟩ := h
  have hl : rs.length = n := by have := ho.1; simpa using this
  refine ⟨rs.set m r, ?_, fun i h2 => ?_⟩
  · have := ((ho.stored m u).1.stored m (.int .i64 (r : Nat))).1
    rw [List.set_set, ← List.map_set (f := fun x : Nat => Value.int .i64 (x : Nat))] at this
    exact this
  · by_cases e : i = m
    · subst e; rw [List.getElem?_set_self (by omega), if_pos (by omega), hr]
    · rw [List.getElem?_set_ne (by omega), hrs i h2]
      by_cases h3 : i < m
      · rw [if_pos h3, if_pos (by omega)]
      · rw [if_neg h3, if_neg (by omega)]
theorem set_block {w : World} {a : Addr} {u : Value} {b : Nat} (h : b < a.block) : (w.setCell a u).heap[b]? = w.heap[b]? := Below.heap_setCell _ _ _ _ (by omega)

theorem ptr_same (b : Nat) (w : World) : (binOp .eql 46 (.pointer (some ⟨b, 0, none⟩)) (.pointer (some ⟨b, 0, none⟩))).run Try.prog w = .ok (.bool true) w := by
  obtain ⟨j, hj⟩ : ∃ j, Try.prog.info? 49 = some j := Option.isSome_iff_exists.1 (by kernel_rfl)
  exact run_eql_ptr_same w _ (by kernel_rfl) hj

section
variable {w : World} {B sb : Nat} {R : List Rec} {K : List ByteArray} {vr : Value} {mb : Nat} {L : ByteArray → Value} {rb : Nat → Nat} {sv : Nat → Value}

set_option maxHeartbeats 1600000 in
theorem places_any (S : Samp w B sb R K vr mb L rb sv) (hsm : Small R) (p : ByteArray) (hp : p.size ≤ maxLen) :
    Calls Try.prog 13 #[ptr sb, .string p] w fun e w' => e = .returned (.slice (some ⟨w.heap.size, 0, none⟩) (idx R p).length (idx R p).length) ∧ Row w' w.heap.size (idx R p).length (fun j => (idx R p).getD j 0) (idx R p).length ∧ Below w.heap.size w w' := by
  unfold ptr
  obtain ⟨s0, s1, sf⟩ := cell2 S.hs
  obtain ⟨ar, cr, hvr⟩ := owns_slice S.row
  have hrow := S.row
  rw [hvr] at s0 hrow
  have hlk := S.mp.look p hp
  obtain ⟨al, cl, hL⟩ := owns_slice (S.vals p)
  have hvals := S.vals p
  rw [hL] at hlk hvals
  have hR := hsm.1
  have hil := idx_length_le R p
  have hsbl := lt_of S.hs
  have HS := Hid.of S
  obtain ⟨f, HFF⟩ : ∃ f : Nat → Nat, Hid ((fun j => (idx R p).getD j 0) = f) := ⟨_, rfl⟩
  rw [HFF.out]
  obtain ⟨n, HT⟩ : ∃ n, Hid ((idx R p).length = n) := ⟨_, rfl⟩
  rw [HT.out] at hlk hvals hil ⊢
  obtain ⟨i3, hi3, hy0, hy1, hy2⟩ := info_parts info3
  clear S hsm hvr hL sf
  go_enter Try.func13, Try.ntmps13
  go_wp2_with (first | (at_make; refine wpList_make_full _ rfl _ _ 27 rfl w.heap.size 3 i3 (.int .i64 0) 1 Try.underlying27 hi3 hy0 hy1 .i64 .i64 _ _ n rfl rfl rfl rfl (by rw [hy2]; omega) (by unfold maxLen; omega) (Nat.le_refl _) ?_; intro w1 hown1 hgrow1; have hrr := Row.start f hown1; have hb1 := made_below hgrow1; clear hown1 hgrow1))
  go_loopw [7] (fun i wr => ∃ q : Nat, q ≤ n ∧ i = .int .i64 q ∧ Row wr w.heap.size n f q ∧ Below w.heap.size w wr) (fun i _ => n - (intOf i).toNat)
  case atStart => exact ⟨0, Nat.zero_le _, rfl, hrr, hb1⟩
  case round =>
    clear hrr hb1
    obtain ⟨q, hq, rfl, hrr, hb⟩ := hrel
    by_cases hlt : q < n
    · have hqi : q < (idx R p).length := by rw [HT.out]; exact hlt
      obtain ⟨k, HK⟩ : ∃ k, Hid ((idx R p)[q]? = some k) := ⟨_, Hid.of (List.getElem?_eq_getElem hqi)⟩
      obtain ⟨r, hr, hrp, hkl⟩ := mem_idx (List.mem_of_getElem? HK.out)
      obtain ⟨g, rfl, hcell⟩ := owns_at hvals q hlt
      obtain ⟨gr, rfl, hcell2⟩ := owns_at hrow k hkl
      rw [List.getElem?_map, HK.out] at hcell
      rw [List.getElem?_map, List.getElem?_range hkl] at hcell2
      have hgl : g < w.heap.size := by obtain ⟨cur, hh⟩ := owns_heap hvals (g := g) rfl; exact lt_of hh
      have hgrl : gr < w.heap.size := by obtain ⟨cur, hh⟩ := owns_heap hrow (g := gr) rfl; exact lt_of hh
      have hrbl := lt_of (HS.out.res k r hr)
      have r0 := (cell3 (HS.out.res k r hr)).1
      have l1 : wr.cell? ⟨g, q, none⟩ = some (.pointer (some ⟨rb k, 0, none⟩)) := (hb.cell (p := ⟨g, q, none⟩) hgl).trans hcell
      obtain ⟨x, hx⟩ := hrr.any q hlt
      have hfz := hrr.free q
      have hbs : Below w.heap.size w (wr.setCell ⟨w.heap.size, q, none⟩ (.int .i64 (-1))) := hb.setCell (Nat.le_refl _) _
      have m0 := (hbs.cell (p := ⟨rb k, 0, none⟩) hrbl).trans r0
      have m1 := (hbs.cell (p := ⟨gr, k, none⟩) hgrl).trans hcell2
      have m2 := (hbs.cell (p := ⟨sb, 0, none⟩) hsbl).trans s0
      have m3 : ∃ y, (wr.setCell ⟨w.heap.size, q, none⟩ (.int .i64 (-1))).cell? ⟨w.heap.size, q, none⟩ = some y := by
        obtain ⟨rs, ho, hrs⟩ := hrr
        have hl : rs.length = n := by have := ho.1; simpa using this
        have := (ho.stored q (.int .i64 (-1))).1.cellAt q (by omega)
        rw [this]
        exact ⟨_, List.getElem?_eq_getElem (by simp; omega)⟩
      have m4 : (wr.setCell ⟨w.heap.size, q, none⟩ (.int .i64 (-1))).frozen? ⟨w.heap.size, q, none⟩ = false := by
        obtain ⟨rs, ho, hrs⟩ := hrr
        exact (ho.stored q (.int .i64 (-1))).1.frozenAt q
      have HE : Hid (f q = k) := by
        rw [← HFF.out]
        show Hid ((idx R p).getD q 0 = k)
        simp [Hid, List.getD, HK.out]
      have g1 : decide ((0 : Int) ≤ (k : Int)) = true := by simp
      have g2 : decide ((k : Int) < (R.length : Int)) = true := by simp; omega
      clear r0 s0 s1 hcell hcell2
      obtain ⟨y, m3⟩ := m3
      go_wp2
      obtain ⟨W, HW⟩ : ∃ W, Hid (wr.setCell ⟨w.heap.size, q, none⟩ (.int .i64 (-1)) = W) := ⟨_, rfl⟩
      rw [HW.out] at m0 m1 m2 m3 m4 hbs
      rw [HW.out]
      unfold ptr at m1
      clear hx hfz l1
      have heq := ptr_same (rb k)
      go_quiet (fail)
      clear heq
      go_wp2
      go_roundw
      case rel =>
        refine ⟨q + 1, by omega, by go_num, ?_, ?_⟩
        · have := hrr.put2 hlt HE.out (.int .i64 (-1))
          rw [HW.out] at this
          exact this
        · have hd : Below w.heap.size w (W.drewN nq) := hbs.trans ⟨rfl, rfl, rfl, Nat.le_refl _, fun _ _ => rfl⟩
          exact hd.setCell (Nat.le_refl _) _
      case measure => simp [intOf]; omega
    · obtain rfl : q = n := by omega
      go_wp2
      go_ret
      exact ⟨rfl, hrr, hb⟩
end
end Go.Proofs.Qxb6601393a.Smp
