/- The row of run lengths in memory (dtb1ModelShape's 'run'): what a store does to it. -/
import Derived.Test.Qxb6601384aShModel
namespace Go.Proofs.Qxb6601384a.Sh
open Go.RowKit

/-- Block g holds n + 1 numbers; from place k on they are the run lengths of l. -/
def RunRow (w : World) (B g n : Nat) (l : List Int) (k : Nat) : Prop :=
  ∃ rs : List Int, w.ownsRow B 3 1 (.slice (some ⟨g, 0, none⟩) (n + 1) (n + 1)) (n + 1) (rs.map (Value.int .i64)) ∧ ∀ i, k ≤ i → i < n → rs[i]? = some ((runLen (l.drop i) : Nat) : Int)

theorem RunRow.start {w : World} {B g n : Nat} (l : List Int) (h : w.ownsRow B 3 1 (.slice (some ⟨g, 0, none⟩) (n + 1) (n + 1)) (n + 1) (madeCells (Value.int .i64 0).cells ((n + 1) * 1)).toList) : RunRow w B g n l n := by
  refine ⟨List.replicate (n + 1) 0, ?_, fun i h1 h2 => by omega⟩
  rw [List.map_replicate]
  have e : (madeCells (Value.int .i64 0).cells ((n + 1) * 1)).toList = List.replicate (n + 1) (Value.int .i64 0) := by
    rw [Nat.mul_one]; exact toList_madeCells_one (.int .i64 0) (n + 1)
  rw [e] at h
  exact h
theorem RunRow.cell {w : World} {B g n k : Nat} {l : List Int} (h : RunRow w B g n l k) (i : Nat) (h1 : k ≤ i) (h2 : i < n) : w.cell? ⟨g, i, none⟩ = some (.int .i64 ((runLen (l.drop i) : Nat) : Int)) := by
  obtain ⟨rs, ho, hr⟩ := h
  rw [ho.cellAt i (by omega), List.getElem?_map, hr i h1 h2]; rfl
theorem RunRow.some {w : World} {B g n k : Nat} {l : List Int} (h : RunRow w B g n l k) (i : Nat) (h2 : i ≤ n) : ∃ x : Int, w.cell? ⟨g, i, none⟩ = some (.int .i64 x) := by
  obtain ⟨rs, ho, _⟩ := h
  have hl : rs.length = n + 1 := by have := ho.1; simpa using this
  exact ⟨rs[i]'(by omega), by rw [ho.cellAt i (by omega), List.getElem?_map, List.getElem?_eq_getElem (by omega)]; rfl⟩
theorem RunRow.free {w : World} {B g n k : Nat} {l : List Int} (h : RunRow w B g n l k) (i : Nat) : w.frozen? ⟨g, i, none⟩ = false := by
  obtain ⟨rs, ho, _⟩ := h
  exact ho.frozenAt i
theorem RunRow.lt {w : World} {B g n k : Nat} {l : List Int} (h : RunRow w B g n l k) : g < w.heap.size := by
  obtain ⟨rs, ho, _⟩ := h
  exact (ho.lt g rfl).2
theorem RunRow.put {w : World} {B g n q : Nat} {l : List Int} {r : Int} (h : RunRow w B g n l (q + 1)) (hq : q < n) (hr : ((runLen (l.drop q) : Nat) : Int) = r) : RunRow (w.setCell ⟨g, q, none⟩ (.int .i64 r)) B g n l q := by
  obtain ⟨rs, ho, hrs⟩ := h
  have hl : rs.length = n + 1 := by have := ho.1; simpa using this
  refine ⟨rs.set q r, ?_, fun i h1 h2 => ?_⟩
  · rw [List.map_set]; exact (ho.stored q _).1
  · by_cases e : i = q
    · subst e; rw [List.getElem?_set_self (by omega), hr]
    · rw [List.getElem?_set_ne (by omega)]; exact hrs i (by omega) h2
theorem RunRow.put2 {w : World} {B g n q : Nat} {l : List Int} {r x : Int} (h : RunRow w B g n l (q + 1)) (hq : q < n) (hr : ((runLen (l.drop q) : Nat) : Int) = r) : RunRow ((w.setCell ⟨g, q, none⟩ (.int .i64 x)).setCell ⟨g, q, none⟩ (.int .i64 r)) B g n l q := by
  obtain ⟨rs, ho, hrs⟩ := h
  have h' : RunRow (w.setCell ⟨g, q, none⟩ (.int .i64 x)) B g n l (q + 1) := by
    refine ⟨rs.set q x, ?_, fun i h1 h2 => ?_⟩
    · rw [List.map_set]; exact (ho.stored q _).1
    · rw [List.getElem?_set_ne (by omega)]; exact hrs i h1 h2
  exact h'.put hq hr

/-- The three ways on which a run is one byte long, and the one on which it goes on. -/
theorem run_ways (s : ByteArray) (q : Nat) (hq : q < s.size) :
    ((cls (s[q].toNat : Int) != 0) = false ∧ Hid (((runLen ((nums s).drop q) : Nat) : Int) = 1)) ∨
    ((cls (s[q].toNat : Int) != 0) = true ∧ s.size ≤ q + 1 ∧ Hid (((runLen ((nums s).drop q) : Nat) : Int) = 1)) ∨
    (∃ h : q + 1 < s.size, (cls (s[q].toNat : Int) != 0) = true ∧ (cls (s[q + 1].toNat : Int) == cls (s[q].toNat : Int)) = false ∧ Hid (((runLen ((nums s).drop q) : Nat) : Int) = 1)) ∨
    (∃ h : q + 1 < s.size, (cls (s[q].toNat : Int) != 0) = true ∧ (cls (s[q + 1].toNat : Int) == cls (s[q].toNat : Int)) = true ∧ Hid (((runLen ((nums s).drop q) : Nat) : Int) = ((runLen ((nums s).drop (q + 1)) : Nat) : Int) + 1)) := by
  have hc := nums_at s q hq
  by_cases h0 : cls (s[q].toNat : Int) = 0
  · exact .inl ⟨by simp [h0], Hid.of (by rw [run_other _ q _ hc h0]; rfl)⟩
  · have h0' : (cls (s[q].toNat : Int) != 0) = true := by simp [h0]
    by_cases h1 : q + 1 < s.size
    · have hd := nums_at s (q + 1) h1
      have st := runLen_step (nums s) q _ _ hc hd
      by_cases h2 : cls (s[q + 1].toNat : Int) = cls (s[q].toNat : Int)
      · rw [if_pos ⟨h0, h2⟩] at st
        exact .inr (.inr (.inr ⟨h1, h0', by simp [h2], Hid.of (by rw [st]; omega)⟩))
      · rw [if_neg (by intro k; exact h2 k.2)] at st
        exact .inr (.inr (.inl ⟨h1, h0', by simp [h2], Hid.of (by rw [st]; rfl)⟩))
    · exact .inr (.inl ⟨h0', by omega, Hid.of (by rw [runLen_last _ q (by rw [nums_length]; omega)]; rfl)⟩)
theorem runLen_bd (s : ByteArray) (q : Nat) (hq : q ≤ s.size) : 0 ≤ ((runLen ((nums s).drop q) : Nat) : Int) ∧ ((runLen ((nums s).drop q) : Nat) : Int) ≤ s.size := by
  have := run_le (nums s) q (by rw [nums_length]; omega)
  rw [nums_length] at this
  omega
end Go.Proofs.Qxb6601384a.Sh
