/- The plain steps of dtb1ModelShape's second loop. -/
import Derived.Test.Qxb6601384aShRuns
namespace Go.Proofs.Qxb6601384a.Sh
open Go.RowKit

/-- The kind of the byte before place k. -/
def pc (l : List Int) (k : Nat) : Int := if k = 0 then 0 else cls (l.getD (k - 1) 0)
theorem pc_zero (l : List Int) : pc l 0 = 0 := rfl
theorem pc_succ (l : List Int) (k : Nat) (c : Int) (h : l[k]? = some c) : pc l (k + 1) = cls c := by
  unfold pc
  rw [if_neg (by omega), Nat.add_sub_cancel, List.getD_eq_getElem?_getD, h]; rfl

theorem cls_le (c : Int) : cls c = 0 ∨ cls c = 1 ∨ cls c = 2 ∨ cls c = 3 := by
  unfold cls
  by_cases a : (97 ≤ c ∧ c ≤ 122) ∨ (65 ≤ c ∧ c ≤ 90)
  · rw [if_pos a]; omega
  · rw [if_neg a]
    by_cases b : 48 ≤ c ∧ c ≤ 57
    · rw [if_pos b]; omega
    · rw [if_neg b]
      by_cases d : c = 32
      · rw [if_pos d]; omega
      · rw [if_neg d]; omega

/-- What is said of the shape behind an emission at k. -/
def Emit (s : ByteArray) (k : Nat) (pre : List Int) (c : Int) : Prop :=
  ∀ y, sym c (runLen ((nums s).drop k)) = y → (pre ++ [y]) ++ sh (pc (nums s) (k + 1)) ((nums s).drop (k + 1)) = sh 0 (nums s)

theorem guard_ways (s : ByteArray) (k : Nat) (hk : k < s.size) (pre : List Int) (h : pre ++ sh (pc (nums s) k) ((nums s).drop k) = sh 0 (nums s)) :
    ((cls (s[k].toNat : Int) != 0) = false ∧ Hid (cls (s[k].toNat : Int) = 0) ∧ Emit s k pre (s[k].toNat : Int)) ∨
    (¬ 0 < k ∧ (cls (s[k].toNat : Int) != 0) = true ∧ Emit s k pre (s[k].toNat : Int)) ∨
    (0 < k ∧ (cls (s[k].toNat : Int) != 0) = true ∧ (cls (s[k - 1].toNat : Int) == cls (s[k].toNat : Int)) = true ∧ Hid (pre ++ sh (pc (nums s) (k + 1)) ((nums s).drop (k + 1)) = sh 0 (nums s))) ∨
    (0 < k ∧ (cls (s[k].toNat : Int) != 0) = true ∧ (cls (s[k - 1].toNat : Int) == cls (s[k].toNat : Int)) = false ∧ Emit s k pre (s[k].toNat : Int)) := by
  have hc := nums_at s k hk
  have hd := drop_at (nums s) k _ hc
  have hps := pc_succ (nums s) k _ hc
  have est : sh (pc (nums s) k) ((nums s).drop k) = if cls (s[k].toNat : Int) ≠ 0 ∧ pc (nums s) k = cls (s[k].toNat : Int) then sh (cls (s[k].toNat : Int)) ((nums s).drop (k + 1)) else sym (s[k].toNat : Int) (runLen ((nums s).drop k)) :: sh (cls (s[k].toNat : Int)) ((nums s).drop (k + 1)) := by
    conv => lhs; rw [hd]
    rw [sh, ← hd]
  have emit : ¬ (cls (s[k].toNat : Int) ≠ 0 ∧ pc (nums s) k = cls (s[k].toNat : Int)) → Emit s k pre (s[k].toNat : Int) := by
    intro hn y hy
    rw [if_neg hn] at est
    rw [est, hy] at h
    rw [hps, ← h]; simp
  by_cases h0 : cls (s[k].toNat : Int) = 0
  · exact .inl ⟨by simp [h0], h0, emit (fun hh => hh.1 h0)⟩
  · have h0' : (cls (s[k].toNat : Int) != 0) = true := by simp [h0]
    by_cases hz : k = 0
    · have hp0 : pc (nums s) k = 0 := by rw [hz]; rfl
      exact .inr (.inl ⟨by omega, h0', emit fun hh => hh.1 (hh.2.symm.trans hp0)⟩)
    · have hp : pc (nums s) k = cls (s[k - 1].toNat : Int) := by
        have := pc_succ (nums s) (k - 1) _ (nums_at s (k - 1) (by omega))
        rwa [show k - 1 + 1 = k from by omega] at this
      by_cases he : cls (s[k - 1].toNat : Int) = cls (s[k].toNat : Int)
      · refine .inr (.inr (.inl ⟨by omega, h0', by simp [he], ?_⟩))
        rw [if_pos ⟨h0, by rw [hp]; exact he⟩] at est
        show _ = _
        rw [est] at h
        rw [hps]; exact h
      · exact .inr (.inr (.inr ⟨by omega, h0', by simp [he], emit fun hh => he (by rw [← hp]; exact hh.2)⟩))

/-- The symbol, by cases as the code parts them. -/
theorem emit_ways (c : Int) (m : Nat) (h0 : (cls c != 0) = true) (hm : 1 ≤ m) :
    ((cls c == 1) = true ∧ m = 1 ∧ Hid (sym c m = 97)) ∨ ((cls c == 1) = true ∧ m = 2 ∧ 65 ≤ c ∧ c ≤ 90 ∧ Hid (sym c m = 66)) ∨ ((cls c == 1) = true ∧ m = 2 ∧ 90 < c ∧ Hid (sym c m = 98)) ∨
    ((cls c == 1) = true ∧ m = 3 ∧ Hid (sym c m = 99)) ∨ ((cls c == 1) = true ∧ 3 < m ∧ Hid (sym c m = 100)) ∨
    ((cls c == 1) = false ∧ (cls c == 2) = true ∧ m ≤ 2 ∧ Hid (sym c m = 48)) ∨ ((cls c == 1) = false ∧ (cls c == 2) = true ∧ 2 < m ∧ Hid (sym c m = 57)) ∨
    ((cls c == 1) = false ∧ (cls c == 2) = false ∧ (cls c == 3) = true ∧ Hid (sym c m = 32)) := by
  have h0' : cls c ≠ 0 := by simpa using h0
  rcases cls_le c with h | h | h | h
  · exact absurd h h0'
  · have b : (cls c == 1) = true := by simp [h]
    have hc : 65 ≤ c := by
      rcases cls_ways c with ⟨_, k⟩ | ⟨_, k⟩ | ⟨_, k⟩ | ⟨_, k⟩ | ⟨_, k⟩ | ⟨_, k⟩ | ⟨_, k⟩ | ⟨_, k⟩ | ⟨_, k⟩ <;> omega
    rcases sym_ways c m h hm with ⟨a, HS⟩ | ⟨a, a', HS⟩ | ⟨a, a', HS⟩ | ⟨a, HS⟩ | ⟨a, HS⟩ | ⟨a, HS⟩
    · exact .inl ⟨b, a, HS⟩
    · exact .inr (.inl ⟨b, a, hc, a', HS⟩)
    · exact .inr (.inr (.inl ⟨b, a, by omega, HS⟩))
    · exact .inr (.inr (.inr (.inl ⟨b, a, HS⟩)))
    · exact .inr (.inr (.inr (.inr (.inl ⟨b, by omega, HS⟩))))
    · exact .inr (.inr (.inr (.inr (.inl ⟨b, by omega, HS⟩))))
  · have b1 : (cls c == 1) = false := by simp [h]
    have b2 : (cls c == 2) = true := by simp [h]
    rcases symD_ways c m h with ⟨a, HS⟩ | ⟨a, HS⟩
    · exact .inr (.inr (.inr (.inr (.inr (.inl ⟨b1, b2, a, HS⟩)))))
    · exact .inr (.inr (.inr (.inr (.inr (.inr (.inl ⟨b1, b2, by omega, HS⟩))))))
  · exact .inr (.inr (.inr (.inr (.inr (.inr (.inr ⟨by simp [h], by simp [h], by simp [h], symS c m h⟩))))))

/-- What an append in the second loop leaves of its relation. -/
theorem rel_emit {s : ByteArray} {k m B g cap : Nat} {c y : Int} {pre : List Int} {wo wr w1 : World} {a : Value} {o : Obj}
    (HM : Hid (runLen ((nums s).drop k) = m)) (HS : Hid (sym c m = y)) (HE : Emit s k pre c) (hpl : pre.length ≤ k)
    (hown0 : wr.ownsRow B 5 1 a pre.length (pre.map (Value.int .u8))) (hBr : B ≤ wr.heap.size)
    (hown : w1.ownsRow B 5 1 (.slice (some ⟨g, 0, none⟩) (pre.length + 1) cap) (pre.length + 1) (pre.map (Value.int .u8) ++ [.int .u8 y]))
    (hgrow : (wr.alloc o).grownBy w1 a.ownBlock) (hb : Below B wo wr) :
    (pre ++ [y]).length ≤ k + 1 ∧ w1.ownsRow B 5 1 (.slice (some ⟨g, 0, none⟩) (pre.length + 1) cap) (pre ++ [y]).length ((pre ++ [y]).map (Value.int .u8)) ∧
      Below B wo w1 ∧ (pre ++ [y]) ++ sh (pc (nums s) (k + 1)) ((nums s).drop (k + 1)) = sh 0 (nums s) := by
  refine ⟨by simp; omega, ?_, ?_, ?_⟩
  · have e1 : (pre ++ [y]).length = pre.length + 1 := by simp
    have e2 : (pre ++ [y]).map (Value.int .u8) = pre.map (Value.int .u8) ++ [.int .u8 y] := by simp
    rw [e1, e2]
    exact hown
  · exact (hb.alloc hBr o).grown hgrow (by rw [World.size_alloc]; omega) (fun k hk => (hown0.lt k hk).1)
  · exact HE y (by rw [HM.out]; exact HS.out)
end Go.Proofs.Qxb6601384a.Sh
