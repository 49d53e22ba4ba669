/- Rows of integers that the call made; the readers of a Sample. -/
import Derived.Test.Qxb6601393aNew
namespace Go.Proofs.Qxb6601393a.Smp
open Go.RowKit

theorem info3 : (Try.prog.info? 3).map (fun i => (i.zero, i.size, i.bytes)) = some (some (.int .i64 0), 1, 8) := by kernel_rfl

/-- A row of n integers in the block g: the first m are f's, the others 0. -/
def Row (w : World) (g n : Nat) (f : Nat → Nat) (m : Nat) : Prop :=
  ∃ rs : List Nat, w.ownsRow 0 3 1 (.slice (some ⟨g, 0, none⟩) n n) n (rs.map fun x => Value.int .i64 (x : Nat)) ∧ ∀ i, i < n → rs[i]? = some (if i < m then f i else 0)

theorem Row.start {w : World} {B g n : Nat} (f : Nat → Nat) (h : w.ownsRow B 3 1 (.slice (some ⟨g, 0, none⟩) n n) n (madeCells (Value.int .i64 0).cells (n * 1)).toList) : Row w g n f 0 := by
  refine ⟨List.replicate n 0, ?_, fun i hi => by simp [hi]⟩
  rw [List.map_replicate]
  have e : (madeCells (Value.int .i64 0).cells (n * 1)).toList = List.replicate n (Value.int .i64 0) := by
    rw [Nat.mul_one]; exact toList_madeCells_one (.int .i64 0) n
  rw [e] at h
  refine ⟨h.1, ?_⟩
  rcases h.2 with h' | ⟨g', cap, cur, h1, _, r⟩
  · exact .inl h'
  · exact .inr ⟨g', cap, cur, h1, Nat.zero_le _, r⟩
section
variable {w : World} {g n m : Nat} {f : Nat → Nat}
theorem Row.cell (h : Row w g n f m) (i : Nat) (h1 : i < m) (h2 : i < n) : w.cell? ⟨g, i, none⟩ = some (.int .i64 (f i : Nat)) := by
  obtain ⟨rs, ho, hr⟩ := h
  rw [ho.cellAt i (by omega), List.getElem?_map, hr i h2, if_pos h1]; rfl
theorem Row.any (h : Row w g n f m) (i : Nat) (h2 : i < n) : ∃ x : Nat, w.cell? ⟨g, i, none⟩ = some (.int .i64 (x : Nat)) := by
  obtain ⟨rs, ho, hr⟩ := h
  exact ⟨_, by rw [ho.cellAt i (by omega), List.getElem?_map, hr i h2]; rfl⟩
theorem Row.free (h : Row w g n f m) (i : Nat) : w.frozen? ⟨g, i, none⟩ = false := by
  obtain ⟨rs, ho, _⟩ := h
  exact ho.frozenAt i
theorem Row.lt (h : Row w g n f m) : g < w.heap.size := by
  obtain ⟨rs, ho, _⟩ := h
  exact (ho.lt g rfl).2
theorem Row.put (h : Row w g n f m) (hm : m < n) {r : Nat} (hr : f m = r) : Row (w.setCell ⟨g, m, none⟩ (.int .i64 (r : Nat))) g n f (m + 1) := by
  obtain ⟨rs, ho, hrs⟩ := h
  have hl : rs.length = n := by have := ho.1; simpa using this
  refine ⟨rs.set m r, ?_, fun i h2 => ?_⟩
  · have := (ho.stored m (.int .i64 (r : Nat))).1
    rwa [← List.map_set (f := fun x : Nat => Value.int .i64 (x : Nat))] at this
  · by_cases e : i = m
    · subst e; rw [List.getElem?_set_self (by omega), if_pos (by omega), hr]
    · rw [List.getElem?_set_ne (by omega), hrs i h2]
      by_cases h3 : i < m
      · rw [if_pos h3, if_pos (by omega)]
      · rw [if_neg h3, if_neg (by omega)]
theorem Row.pass (h : Row w g n f m) (h0 : f m = 0) : Row w g n f (m + 1) := by
  obtain ⟨rs, ho, hrs⟩ := h
  refine ⟨rs, ho, fun i h2 => ?_⟩
  rw [hrs i h2]
  by_cases e : i = m
  · subst e; rw [if_neg (by omega), if_pos (by omega), h0]
  · by_cases h3 : i < m
    · rw [if_pos h3, if_pos (by omega)]
    · rw [if_neg h3, if_neg (by omega)]
theorem Row.keep {w' : World} (h : Row w g n f m) (hb : w'.heap[g]? = w.heap[g]?) : Row w' g n f m := by
  obtain ⟨rs, ho, hrs⟩ := h
  exact ⟨rs, owns_keep ho (fun k hk => by cases hk; exact hb), hrs⟩
theorem Row.below {w' : World} {B : Nat} (h : Row w g n f m) (hb : Below B w w') (hg : g < B) : Row w' g n f m := h.keep (hb.block g hg)
end
theorem made_below {w w1 : World} (h : w.grownBy w1 none) : Below w.heap.size w w1 := (Below.refl _ _).grown h (Nat.le_refl _) (fun k h => by cases h)

section
variable {w : World} {B sb : Nat} {R : List Rec} {K : List ByteArray} {vr : Value} {mb : Nat} {L : ByteArray → Value} {rb : Nat → Nat} {sv : Nat → Value}

theorem count_any (S : Samp w B sb R K vr mb L rb sv) : Calls Try.prog 10 #[ptr sb] w fun e w' => e = .returned (.int .i64 (R.length : Nat)) ∧ w = w' := by
  unfold ptr
  obtain ⟨s0, s1, sf⟩ := cell2 S.hs
  obtain ⟨ar, cr, hvr⟩ := owns_slice S.row
  rw [hvr] at s0
  clear hvr S
  go_enter Try.func10, Try.ntmps10
  go_wp2
  go_ret
  exact ⟨rfl, rfl⟩
theorem paths_any (S : Samp w B sb R K vr mb L rb sv) : Calls Try.prog 14 #[ptr sb] w fun e w' => e = .returned (.int .i64 (K.length : Nat)) ∧ w = w' := by
  unfold ptr
  obtain ⟨s0, s1, sf⟩ := cell2 S.hs
  obtain ⟨es, cl, hm, hl⟩ := S.mp.is
  have hlm := run_len_map (P := Try.prog) (w := w) 37 3 mb es cl (by kernel_rfl) hm
  rw [hl] at hlm
  clear S hl hm
  go_enter Try.func14, Try.ntmps14
  go_wp2
  go_ret
  exact ⟨rfl, rfl⟩

set_option maxHeartbeats 1600000 in
theorem resource_any (S : Samp w B sb R K vr mb L rb sv) (hsm : Small R) (k : Nat) (r : Rec) (hr : R[k]? = some r) :
    Calls Try.prog 11 #[ptr sb, .int .i64 (k : Nat)] w fun e w' => e = .returned (.tuple #[.int .i64 (k : Nat), .string r.acc, .slice (some ⟨w.heap.size, 0, none⟩) r.tags.length r.tags.length]) ∧ Row w' w.heap.size r.tags.length (fun j => r.tags.getD j 0) r.tags.length ∧ Below w.heap.size w w' := by
  unfold ptr
  obtain ⟨s0, s1, sf⟩ := cell2 S.hs
  obtain ⟨ar, cr, hvr⟩ := owns_slice S.row
  have hkl := get_lt hr
  have hrow := S.row
  rw [hvr] at s0 hrow
  obtain ⟨gr, rfl, hcell⟩ := owns_at hrow k hkl
  rw [List.getElem?_map, List.getElem?_range hkl] at hcell
  have hcell' : w.cell? ⟨gr, k, none⟩ = some (.pointer (some ⟨rb k, 0, none⟩)) := hcell
  obtain ⟨r0, r1, r2, rf⟩ := cell3 (S.res k r hr)
  obtain ⟨cs, hcl, hown, hrecs⟩ := S.sts k r hr
  have htl := hsm.2 k r hr
  have hR := hsm.1
  obtain ⟨a2, c2, hsv⟩ := owns_slice hown
  rw [hsv] at r2 hown
  obtain ⟨f, HFF⟩ : ∃ f : Nat → Nat, Hid ((fun j => r.tags.getD j 0) = f) := ⟨_, rfl⟩
  rw [HFF.out]
  obtain ⟨n, HT⟩ : ∃ n, Hid (r.tags.length = n) := ⟨_, rfl⟩
  rw [HT.out] at hcl hown htl r2 ⊢
  have hrl := lt_of (S.res k r hr)
  have HX := Hid.of hrecs
  clear hcell hrow hvr hsv sf hrecs hsm
  obtain ⟨i3, hi3, hy0, hy1, hy2⟩ := info_parts info3
  go_enter Try.func11, Try.ntmps11
  go_wp2_with (first | (at_make; refine wpList_make_full _ rfl _ _ 27 rfl w.heap.size 3 i3 (.int .i64 0) 1 Try.underlying27 hi3 hy0 hy1 .i64 .i64 _ _ n rfl rfl rfl rfl (by rw [hy2]; omega) (by unfold maxLen; omega) (Nat.le_refl _) ?_; intro w1 hown1 hgrow1; have hrr := Row.start f hown1; have hb1 := made_below hgrow1; clear hown1 hgrow1))
  go_loopw [9] (fun i wr => ∃ q : Nat, q ≤ n ∧ i = .int .i64 q ∧ Row wr w.heap.size n f q ∧ Below w.heap.size w wr) (fun i _ => n - (intOf i).toNat)
  case atStart => exact ⟨0, Nat.zero_le _, rfl, hrr, hb1⟩
  case round =>
    clear hrr hb1
    obtain ⟨q, hq, rfl, hrr, hb⟩ := hrel
    have y0 := (hb.cell (p := ⟨rb k, 0, none⟩) hrl).trans r0
    have y1 := (hb.cell (p := ⟨rb k, 1, none⟩) hrl).trans r1
    have y2 := (hb.cell (p := ⟨rb k, 2, none⟩) hrl).trans r2
    clear r0 r1 r2 s0 s1 hcell' rf
    by_cases hlt : q < n
    · obtain ⟨gs, rfl, hc⟩ := owns_at hown q hlt
      have hcq : q < cs.length := by omega
      rw [List.getElem?_map, List.getElem?_eq_getElem hcq] at hc
      have hgs : gs < w.heap.size := by
        obtain ⟨cur, hh⟩ := owns_heap hown (g := gs) rfl
        exact lt_of hh
      have z1 : wr.cell? ⟨gs, q, none⟩ = some (.pointer (some ⟨cs[q], 0, none⟩)) := (hb.cell (p := ⟨gs, q, none⟩) hgs).trans hc
      have hql : q < r.tags.length := by rw [HT.out]; exact hlt
      obtain ⟨o, ho, ho0⟩ := HX.out q cs[q] r.tags[q] (List.getElem?_eq_getElem hcq) (List.getElem?_eq_getElem hql)
      have z2 : wr.cell? ⟨cs[q], 0, none⟩ = some (.int .i64 (r.tags[q] : Nat)) := by
        rw [hb.cell (p := ⟨cs[q], 0, none⟩) (lt_of ho), cell_of_row w _ 0 _ _ _ ho]
        exact ho0
      have HE : Hid (f q = r.tags[q]) := by
        rw [← HFF.out]
        show Hid (r.tags.getD q 0 = r.tags[q])
        simp [Hid, List.getD, hql]
      obtain ⟨c, HC⟩ : ∃ c, Hid (cs[q] = c) := ⟨_, Hid.of rfl⟩
      rw [HC.out] at z1 z2
      obtain ⟨t, HTT⟩ : ∃ t, Hid (r.tags[q] = t) := ⟨_, Hid.of rfl⟩
      rw [HTT.out] at z2 HE
      obtain ⟨x, hx⟩ := hrr.any q hlt
      have hfz := hrr.free q
      clear hc ho ho0
      go_wp2
      go_roundw
      case rel => exact ⟨q + 1, by omega, by go_num, hrr.put hlt HE.out, hb.setCell (Nat.le_refl _) _⟩
      case measure => simp [intOf]; omega
    · obtain rfl : q = n := by omega
      go_wp2
      go_quiet (fail)
      go_wp2
      go_ret3
      exact ⟨rfl, hrr, hb.trans ⟨rfl, rfl, rfl, Nat.le_refl _, fun _ _ => rfl⟩⟩
end
end Go.Proofs.Qxb6601393a.Smp
