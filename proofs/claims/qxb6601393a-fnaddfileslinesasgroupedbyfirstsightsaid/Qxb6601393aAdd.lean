/- (*Sample).add: the walk. -/
import Derived.Test.Qxb6601393aFresh
import Derived.Deep.RegionLaw
import Derived.Deep.QuietTactic
import Derived.BigQuiet
namespace Go.Proofs.Qxb6601393a.Smp
open Go.RowKit

theorem info42 : (Try.prog.info? 42).map (fun i => (i.zero, i.size, i.bytes)) = some (some (.pointer none), 1, 8) := by kernel_rfl
theorem info46 : (Try.prog.info? 46).map (fun i => (i.zero, i.size, i.bytes)) = some (some (.pointer none), 1, 8) := by kernel_rfl

theorem owns_slice {w : World} {B n : Nat} {e : TypeId} {v : Value} {xs : List Value} (h : w.ownsRow B e 1 v n xs) : ∃ a c, v = .slice a n c := by
  rcases h.2 with ⟨rfl, rfl⟩ | ⟨g, cap, cur, rfl, _⟩
  · exact ⟨none, 0, rfl⟩
  · exact ⟨_, _, rfl⟩
theorem owns_at {w : World} {B n c : Nat} {e : TypeId} {a : Option Addr} {xs : List Value} (h : w.ownsRow B e 1 (.slice a n c) n xs) (k : Nat) (hk : k < n) : ∃ g, a = some ⟨g, 0, none⟩ ∧ w.cell? ⟨g, k, none⟩ = xs[k]? := by
  obtain ⟨g, cap, hv, _, _⟩ := h.form (by omega)
  simp only [Value.slice.injEq, true_and] at hv
  obtain ⟨rfl, rfl⟩ := hv
  exact ⟨g, rfl, h.cellAt k (by omega)⟩
theorem cell3 {w : World} {b : Nat} {x y z : Value} {t : TypeId} (h : w.heap[b]? = some (.cells #[x, y, z] t (0, 0))) : w.cell? ⟨b, 0, none⟩ = some x ∧ w.cell? ⟨b, 1, none⟩ = some y ∧ w.cell? ⟨b, 2, none⟩ = some z ∧ ∀ j, w.frozen? ⟨b, j, none⟩ = false :=
  ⟨by rw [cell_of_row w b 0 _ t _ h]; rfl, by rw [cell_of_row w b 1 _ t _ h]; rfl, by rw [cell_of_row w b 2 _ t _ h]; rfl, fun j => frozen_of_row w b j _ t h⟩
theorem cell2 {w : World} {b : Nat} {x y : Value} {t : TypeId} (h : w.heap[b]? = some (.cells #[x, y] t (0, 0))) : w.cell? ⟨b, 0, none⟩ = some x ∧ w.cell? ⟨b, 1, none⟩ = some y ∧ ∀ j, w.frozen? ⟨b, j, none⟩ = false :=
  ⟨by rw [cell_of_row w b 0 _ t _ h]; rfl, by rw [cell_of_row w b 1 _ t _ h]; rfl, fun j => frozen_of_row w b j _ t h⟩

section
variable {w : World} {B sb : Nat} {R : List Rec} {K : List ByteArray} {vr : Value} {mb : Nat} {L : ByteArray → Value} {rb : Nat → Nat} {sv : Nat → Value}

theorem news3 (w : World) (x y : Obj) (v : Value) (t : TypeId) : ∀ j u, [v][j]? = some u → (((w.alloc x).alloc y).alloc (.cells #[v] t)).cell? ((⟨w.heap.size + 2, 0, none⟩ : Addr).add j) = some u := by
  have h := cell_one_new ((w.alloc x).alloc y) v t
  rw [World.size_alloc, World.size_alloc] at h
  exact h
theorem size3 (w : World) (x y z : Obj) : (((w.alloc x).alloc y).alloc z).heap.size = w.heap.size + 3 := (alloc3 w x y z).2.2.2

theorem news1d (W : World) (v : Value) (t : TypeId) : ∀ j u, [v][j]? = some u → ((W.alloc (.cells #[v] t)).drew).cell? ((⟨W.heap.size, 0, none⟩ : Addr).add j) = some u := cell_one_new W v t
theorem size1d (W : World) (o : Obj) : ((W.alloc o).drew).heap.size = W.heap.size + 1 := World.size_alloc W o
theorem map2_after {W w2 : World} {D : Obj} {v : Value} {n : Nat} {xs : List Value} (hm : MapIs W mb L K) (ho : W.ownsRow B 46 1 v n xs) (hg : ((W.alloc D).drew).grownBy w2 v.ownBlock) : MapIs w2 mb L K := by
  refine hm.of_block ?_
  obtain ⟨es, cl, he, _⟩ := hm.is
  rw [hg.block mb (by rw [size1d]; have := hm.lt; omega) ?_]
  · exact Below.heap_alloc W D mb hm.lt
  · intro e
    obtain ⟨cur, hh⟩ := owns_heap ho e.symm
    exact kindm hh he rfl
theorem sb2_after {W w2 : World} {D : Obj} {v x : Value} {n : Nat} {xs : List Value} (hs : W.heap[sb]? = some (.cells #[x, .map (some mb)] 40 (0, 0))) (ho : W.ownsRow B 46 1 v n xs) (hg : ((W.alloc D).drew).grownBy w2 v.ownBlock) : w2.cell? ⟨sb, 1, none⟩ = some (.map (some mb)) := by
  have h : w2.heap[sb]? = some (.cells #[x, .map (some mb)] 40 (0, 0)) := by
    rw [hg.block sb (by rw [size1d]; have := lt_of hs; omega) ?_]
    · exact (Below.heap_alloc W D sb (lt_of hs)).trans hs
    · intro e
      obtain ⟨cur, hh⟩ := owns_heap ho e.symm
      exact kinds hs hh (by decide) rfl
  exact (cell2 h).2.1
theorem undrew {W w2 : World} {row : Option Nat} (h : W.drew.grownBy w2 row) : W.grownBy w2 row := ⟨h.os, h.tape, h.output, h.size, h.block⟩

/-- How large the Sample is at most. -/
def Small (R : List Rec) : Prop := R.length ≤ 4096 ∧ ∀ (k : Nat) (r : Rec), R[k]? = some r → r.tags.length ≤ 4096

set_option maxHeartbeats 1600000 in
theorem add_any (p a : ByteArray) (c t : Nat) (o : Array Value) (S : Samp w B sb R K vr mb L rb sv) (hsm : Small R) (hB : B ≤ w.heap.size) (hp : p.size ≤ maxLen)
    (hc : w.heap[c]? = some (.cells o 45 (0, 0))) (ho : o[0]? = some (.int .i64 (t : Nat))) :
    Calls Try.prog 16 #[ptr sb, .string p, .string a, ptr c] w fun e w' => e = .returned (.tuple #[]) ∧ (∃ vr' L' rb' sv', Samp w' B sb (addR R p a t) (addK R K p a) vr' mb L' rb' sv') ∧ Below B w w' := by
  unfold ptr
  obtain ⟨s0, s1, sf⟩ := cell2 S.hs
  have hlk := S.mp.look p hp
  obtain ⟨al, cl, hL⟩ := owns_slice (S.vals p)
  have HL := Hid.of hL
  rw [hL] at hlk
  have HS := Hid.of S
  have HSM := Hid.of hsm
  have hil := idx_length_le R p
  have hR := hsm.1
  clear S hL hsm
  have sf1 := sf 1
  obtain ⟨n, HN⟩ : ∃ n, Hid ((idx R p).length = n) := ⟨_, rfl⟩
  rw [HN.out] at hlk hil HL
  obtain ⟨i0, hi, hz0, hz1, hz2⟩ := info_parts info42
  go_enter Try.func16, Try.ntmps16
  go_wp2
  go_loop [18] (fun i => ∃ q : Nat, q ≤ n ∧ i = .int .i64 q ∧ ∀ k ∈ (idx R p).take q, accIs R a k = false) (fun i => n - (intOf i).toNat)
  case atStart => exact ⟨0, Nat.zero_le _, rfl, by simp⟩
  case round =>
    obtain ⟨q, hq, rfl, hno⟩ := hrel
    by_cases hlt : q < n
    · have hqi : q < (idx R p).length := by rw [HN.out]; exact hlt
      obtain ⟨k, HK⟩ : ∃ k, Hid ((idx R p)[q]? = some k) := ⟨_, List.getElem?_eq_getElem hqi⟩
      have hkm : k ∈ idx R p := List.mem_of_getElem? HK.out
      obtain ⟨r, hr, hrp, hkl⟩ := mem_idx hkm
      have hrow := HS.out.vals p
      rw [HL.out, HN.out] at hrow
      obtain ⟨g, rfl, hcell⟩ := owns_at hrow q hlt
      rw [List.getElem?_map, HK.out] at hcell
      have hcell' : w.cell? ⟨g, q, none⟩ = some (.pointer (some ⟨rb k, 0, none⟩)) := hcell
      obtain ⟨r0, r1, r2, rf⟩ := cell3 (HS.out.res k r hr)
      clear hcell hrow
      by_cases hacc : (r.acc.toList == a.toList) = true
      · obtain ⟨cs, hcl, hown, hrecs⟩ := HS.out.sts k r hr
        have htl := HSM.out.2 k r hr
        have HR := Hid.of hrecs
        have HNO := Hid.of hno
        have HRR := Hid.of hr
        have HO := Hid.of ho
        have HCC := Hid.of hc
        have HCL := Hid.of hcl
        clear hrecs hno hcl ho hc
        go_wp2_with (first | (at_builtin; refine wpList_append_lies _ rfl _ _ 47 rfl B 42 i0 (.pointer none) 1 8 Try.underlying47 hi hz0 hz1 hz2 rfl (by decide) _ _ _ rfl (hown.alloc _) ⟨_, 0, none⟩ 1 1 [_] rfl rfl (cell_one_new _ _ _) (by intro u hu; simp at hu; subst hu; rfl) (by decide) (by unfold maxLen; omega) (by omega) (by rw [World.size_alloc]; omega) _ (World.size_alloc _ _) ?_; intro g1 cap1 w1 hown1 hgrow1 hat1 hgl1; have hrk := res_after HS.out HRR.out hgrow1; obtain ⟨x0, x1, x2, xf⟩ := cell3 hrk; have xf2 := xf 2; clear xf hrk))
        refine bodyPost_ret (results_none rfl _ _ _) rfl ?_
        exact ⟨rfl, found_fin HS.out hB HRR.out HK.out HNO.out hacc HCC.out HO.out HCL.out HR.out hown hown1 hgrow1 hat1⟩
      · have hacc' : (r.acc.toList == a.toList) = false := by simpa using hacc
        have HNO : Hid (∀ k ∈ (idx R p).take (q + 1), accIs R a k = false) := by
          intro k' hk'
          rw [List.take_succ_eq_append_getElem hqi] at hk'
          rcases List.mem_append.1 hk' with h | h
          · exact hno k' h
          · have : k' = k := by
              rw [List.mem_singleton.1 h]
              have := HK.out
              rw [List.getElem?_eq_getElem hqi] at this
              exact Option.some.inj this
            subst this
            unfold accIs
            rw [hr]
            exact hacc'
        clear hno hacc
        go_wp2
        go_round
        case rel => exact ⟨q + 1, by omega, by go_num, HNO.out⟩
        case measure => simp [intOf]; omega
    · have HF := Hid.of (find_no (by rw [HN.out]; omega) hno)
      obtain ⟨ar, cr, hvr⟩ := owns_slice HS.out.row
      have hrow := HS.out.row
      rw [hvr] at s0
      have HVR := Hid.of hvr
      rw [hvr] at hrow
      have HC := Hid.of hc
      have HO := Hid.of ho
      clear hno hc ho hvr
      obtain ⟨j0, hj, hy0, hy1, hy2⟩ := info_parts info46
      have sf0 := sf 0
      have hsbl := lt_of HS.out.hs
      go_wp2_with (first | (at_builtin; refine wpList_append_lies _ rfl _ _ 38 rfl B 46 j0 (.pointer none) 1 8 Try.underlying38 hj hy0 hy1 hy2 rfl (by decide) _ _ _ rfl (((hrow.alloc _).alloc _).alloc _) ⟨w.heap.size + 2, 0, none⟩ 1 1 [_] rfl rfl (news3 _ _ _ _ _) (by intro u hu; simp at hu; subst hu; rfl) (by decide) (by unfold maxLen; omega) (by omega) (by rw [size3]; omega) (w.heap.size + 3) (size3 _ _ _ _) ?_; intro g1 cap1 w1 hown1 hgrow1 hat1 hgl1; have hrk := sb_after HS.out (by rw [HVR.out]; exact hgrow1); rw [HVR.out] at hrk; obtain ⟨x0, x1, xf⟩ := cell2 hrk; have xf0 := xf 0; clear xf hrk))
      have hg1 := hgrow1
      rw [← HVR.out] at hg1
      have mA := map_after (u := .slice (some ⟨g1, 0, none⟩) (R.length + 1) cap1) (p := p) HS.out hg1
      have c4 := (cell2 (set0 (y := .slice (some ⟨g1, 0, none⟩) (R.length + 1) cap1) (sb_after HS.out hg1))).2.1
      have z4 : sb < (w1.setCell ⟨sb, 0, none⟩ (.slice (some ⟨g1, 0, none⟩) (R.length + 1) cap1)).heap.size := by
        rw [size_setCell]
        exact lt_of (sb_after HS.out hg1)
      have q4 := set0 (y := .slice (some ⟨g1, 0, none⟩) (R.length + 1) cap1) (sb_after HS.out hg1)
      obtain ⟨W4, HW4⟩ : ∃ W4, Hid (w1.setCell ⟨sb, 0, none⟩ (.slice (some ⟨g1, 0, none⟩) (R.length + 1) cap1) = W4) := ⟨_, rfl⟩
      rw [HW4.out] at mA c4 z4 q4
      have HQ4 := Hid.of q4
      clear q4
      rw [HW4.out]
      obtain ⟨hmp4, hL4⟩ := mA
      have lkA : (Instr.lookup 37 (.map (some mb)) (.string p) false).run Try.prog W4.drew = .ok (.slice al n cl) W4.drew := by
        have := (hmp4.of_block (w' := W4.drew) rfl).look p hp
        rwa [HL.out] at this
      have lkB : ∀ o, (Instr.lookup 37 (.map (some mb)) (.string p) false).run Try.prog (W4.alloc o).drew = .ok (.slice al n cl) (W4.alloc o).drew := by
        intro o
        have := (hmp4.of_block (w' := (W4.alloc o).drew) (Below.heap_alloc W4 o mb hmp4.lt)).look p hp
        rwa [HL.out] at this
      rw [HL.out, HN.out] at hL4
      have hB4 : B ≤ W4.heap.size := by
        have h1 := hgrow1.size
        rw [size3] at h1
        have h2 : W4.heap.size = w1.heap.size := by rw [← HW4.out, size_setCell]
        omega
      clear hlk s0 s1 sf sf1 sf0 x0 x1 xf0
      have HM4 := Hid.of hmp4
      clear hmp4
      go_region_law (refine step_append_lies _ rfl (.tmp 69) (.tmp 71) 38 rfl B 46 j0 (.pointer none) 1 8 Try.underlying38 hj hy0 hy1 hy2 rfl (by decide) (.slice al n cl) n _ rfl ((hL4.alloc _).drew) ⟨W4.heap.size, 0, none⟩ 1 1 [.pointer (some ⟨w.heap.size + 1, 0, none⟩)] rfl rfl (news1d W4 _ 46) (by intro u hu; simp at hu; subst hu; rfl) (by decide) (by unfold maxLen; omega) (by omega) (by rw [size1d]; omega) (W4.heap.size + 1) (size1d _ _) ?_; intro g2 cap2 w2 hown2 hgrow2 hat2 hgl2; have c2 := sb2_after HQ4.out hL4 hgrow2; obtain ⟨w3, hput, hmp3, hg3⟩ := (map2_after HM4.out hL4 hgrow2).put p hp (.slice (some ⟨g2, 0, none⟩) (n + 1) cap2))
      all_goals
        clear c2
        rw [← HL.out] at hgrow2 hat2
        have hg2 := undrew hgrow2
        rw [← HN.out] at hown2 hmp3
        go_end0
        exact ⟨rfl, fresh_fin HS.out hB HF.out HC.out HO.out hown1 hg1 (HVR.out ▸ hat1) HW4.out.symm hown2 hg2 hat2 hmp3 hg3⟩
end
end Go.Proofs.Qxb6601393a.Smp
