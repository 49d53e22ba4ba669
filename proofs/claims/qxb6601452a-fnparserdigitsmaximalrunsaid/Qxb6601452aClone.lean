/- cloneBytes: a fresh copy. -/
import Derived.Test.Qxb6601452aRows
import Derived.WalkKit
import Derived.WalkLawsBesides
import Derived.WalkSpells
import Derived.Laws.CopyOwn
import Derived.Lib.SliceRun
namespace Go.Proofs.Qxb6601452a.Jcs
open Go.RowKit

theorem info5 : (Try.prog.info? 5).map (fun i => (i.zero, i.size, i.bytes)) = some (some (.int .u8 0), 1, 1) := by kernel_rfl
theorem info3 : (Try.prog.info? 3).map (fun i => (i.zero, i.size, i.bytes)) = some (some (.int .i64 0), 1, 8) := by kernel_rfl
theorem size5 : (Try.prog.info? 5).map (·.size) = some 1 := by kernel_rfl

/-- The slice (a, len, cap) reads as the numbers zs. -/
def Rd (w : World) (a : Option Addr) (len cap : Nat) (zs : List Int) : Prop :=
  zs.length = len ∧ len ≤ cap ∧ (a = none → len = 0 ∧ cap = 0) ∧ ∀ x, a = some x → ∀ i, i < len → w.cell? (x.add i) = some (.int .u8 (zs.getD i 0))

theorem owns_nil (w : World) (B : Nat) : w.ownsRow B 5 1 (.slice none 0 0) 0 (([] : List Int).map (Value.int .u8)) := World.ownsRow_nil w B 5 1
theorem splice_all (cur cs : List Value) (h : cs.length = cur.length) : splice cur 0 cs = cs := by
  simp [splice, h]
theorem owns_block {w : World} {B g n : Nat} {cs : List Value} (hb : B ≤ g) (hn : cs.length = n) (hm : n ≤ maxLen) (hg : w.heap[g]? = some (.cells cs.toArray 5 (0, 0))) :
    w.ownsRow B 5 1 (.slice (some ⟨g, 0, none⟩) n n) n cs :=
  ⟨by omega, .inr ⟨g, n, cs.toArray, rfl, hb, hg, Nat.le_refl _, hm, by simp [hn], by simp [← hn]⟩⟩

theorem Hid.of {p : Prop} (h : p) : Hid p := h
theorem made_below {w w1 : World} (h : w.grownBy w1 none) : Below w.heap.size w w1 := (Below.refl _ _).grown h (Nat.le_refl _) (fun k h => by cases h)
theorem made_src {w w1 : World} {cs : List Value} {x : Addr} (HC : Hid (∀ j v, cs[j]? = some v → w.cell? (x.add j) = some v)) (h : w.grownBy w1 none) : Hid (∀ j v, cs[j]? = some v → w1.cell? (x.add j) = some v) :=
  fun j v hj => h.cell (HC.out j v hj) (by simp)
theorem owned_cur {w : World} {B g n cap : Nat} {xs : List Value} (h : w.ownsRow B 5 1 (.slice (some ⟨g, 0, none⟩) n cap) n xs) : ∃ cur : List Value, w.heap[g]? = some (.cells cur.toArray 5 (0, 0)) ∧ Hid (cur.length = cap) := by
  rcases h.2 with ⟨h', _⟩ | ⟨g', cap', cur, h', _, hg, _, _, hs, _⟩
  · simp at h'
  · simp only [Value.slice.injEq, Option.some.injEq, Addr.mk.injEq, and_true, true_and] at h'
    obtain ⟨rfl, rfl⟩ := h'
    exact ⟨cur.toList, by simpa using hg, Hid.of (by simpa using hs)⟩

set_option maxHeartbeats 1000000 in
theorem clone_any (a : Option Addr) (len cap : Nat) (zs : List Int) (w : World) (hr : Rd w a len cap zs) (hm : len ≤ 65536) :
    Calls Try.prog 8 #[.slice a len cap] w fun e w' => ∃ v, e = .returned v ∧ w'.ownsRow w.heap.size 5 1 v len (zs.map (Value.int .u8)) ∧ Below w.heap.size w w' := by
  obtain ⟨hl, hc, hnil, hcell⟩ := hr
  have hq := fun wx => Lib.run_eql_slice_nil (P := Try.prog) wx 22 5 a len cap 0 0 Try.underlying22
  cases a with
  | none =>
    obtain ⟨rfl, rfl⟩ := hnil rfl
    obtain rfl : zs = [] := List.eq_nil_of_length_eq_zero hl
    go_enter Try.func8, Try.ntmps8
    go_wp2
    go_ret
    exact ⟨_, rfl, owns_nil _ _, Below.refl _ _⟩
  | some x =>
    obtain ⟨i0, hi, hz0, hz1, hz2⟩ := info_parts info5
    have hcs : ∀ j v, (zs.map (Value.int .u8))[j]? = some v → w.cell? (x.add j) = some v := by
      intro j v hj
      rw [List.getElem?_map] at hj
      cases hz : zs[j]? with
      | none => rw [hz] at hj; simp at hj
      | some z =>
        rw [hz] at hj
        simp at hj
        subst hj
        have hlt : j < zs.length := (List.getElem?_eq_some_iff.1 hz).1
        rw [hcell x rfl j (by omega)]
        simp [List.getD, hz]
    have HC : Hid (∀ j v, (zs.map (Value.int .u8))[j]? = some v → w.cell? (x.add j) = some v) := hcs
    have HL : Hid ((zs.map (Value.int .u8)).length = len) := by show _ = _; rw [List.length_map]; exact hl
    clear hcs hcell hnil hl
    go_enter Try.func8, Try.ntmps8
    go_wp2_with (first | (at_make; refine wpList_make_full _ rfl _ _ 22 rfl w.heap.size 5 i0 (.int .u8 0) 1 Try.underlying22 hi hz0 hz1 .i64 .i64 _ _ len rfl rfl rfl rfl (by rw [hz2]; omega) (by unfold maxLen; omega) (Nat.le_refl _) ?_; intro w1 hown1 hgrow1; have hb1 := made_below hgrow1; have HC1 := made_src HC hgrow1; obtain ⟨cur, hcur, HL2⟩ := owned_cur hown1; clear hown1 hgrow1 HC) | (refine wpList_copy_splice rfl _ _ 22 22 rfl 5 Try.underlying22 size5 _ _ _ _ _ _ rfl rfl w.heap.size 0 cur 5 hcur (zs.map (Value.int .u8)) (by rw [HL.out]; simp) (fun _ => ⟨rfl, x, rfl, HC1.out⟩) (by rw [HL.out, HL2.out]; simp) (ints_oneCell _ _) w.heap.size w hb1 (Nat.le_refl _) ?_; intro w2 hg2 hb2))
    go_ret
    refine ⟨_, rfl, owns_block (Nat.le_refl _) HL.out (by unfold maxLen; omega) ?_, hb2⟩
    rw [hg2.out, splice_all _ _ (by rw [HL.out, HL2.out])]
end Go.Proofs.Qxb6601452a.Jcs
