/- ZZNewSample and ZZAdd. -/
import Derived.Test.Qxb6601393aAdd
namespace Go.Proofs.Qxb6601393a.Smp
open Go.RowKit

theorem samp_new (w : World) : Samp ((w.alloc (.map #[] 0)).alloc (.cells #[.slice none 0 0, .map (some w.heap.size)] 40)) w.heap.size (w.heap.size + 1) [] [] (.slice none 0 0) w.heap.size (fun _ => .slice none 0 0) (fun _ => 0) (fun _ => .slice none 0 0) where
  hs := by
    have := heap_alloc_new (w.alloc (.map #[] 0)) (.cells #[.slice none 0 0, .map (some w.heap.size)] 40)
    rwa [World.size_alloc] at this
  row := ⟨rfl, .inl ⟨rfl, rfl⟩⟩
  res := fun k r h => by simp at h
  sts := fun k r h => by simp at h
  mp := (MapIs.made w).of_block (Below.heap_alloc _ _ _ (by rw [World.size_alloc]; omega))
  vals := fun p => ⟨rfl, .inl ⟨rfl, rfl⟩⟩
  sbB := by omega
  mbB := Nat.le_refl _
  rbB := fun k h => by simp at h
  rinj := fun k j h => by simp at h
  sap := fun k j h => by simp at h
  lap := fun p q _ => .inl rfl
  lvr := fun p => .inl rfl

theorem new_any (w : World) : Calls Try.prog 8 #[] w fun e w' => ∃ sb mb, e = .returned (ptr sb) ∧ (∃ vr L rb sv, Samp w' w.heap.size sb [] [] vr mb L rb sv) ∧ Below w.heap.size w w' := by
  have hmm := @run_makeMap Try.prog
  go_enter Try.func8, Try.ntmps8
  go_wp2
  go_ret
  refine ⟨w.heap.size + 1, w.heap.size, rfl, ⟨_, _, _, _, samp_new w⟩, ((Below.refl _ _).alloc (Nat.le_refl _) _).alloc (by rw [World.size_alloc]; omega) _⟩

section
variable {w : World} {B sb : Nat} {R : List Rec} {K : List ByteArray} {vr : Value} {mb : Nat} {L : ByteArray → Value} {rb : Nat → Nat} {sv : Nat → Value}

set_option maxHeartbeats 1600000 in
theorem zzadd_any (p a : ByteArray) (t : Nat) (S : Samp w B sb R K vr mb L rb sv) (hsm : Small R) (hB : B ≤ w.heap.size) (hp : p.size ≤ maxLen) :
    Calls Try.prog 9 #[ptr sb, .string p, .string a, .int .i64 (t : Nat)] w fun e w' => e = .returned (.tuple #[]) ∧ (∃ vr' L' rb' sv', Samp w' B sb (addR R p a t) (addK R K p a) vr' mb L' rb' sv') ∧ Below B w w' := by
  have HS := Hid.of S
  have HM := Hid.of hsm
  clear S hsm
  unfold ptr
  go_enter Try.func9, Try.ntmps9
  go_wp2_with (first | (go_at_call 16; refine (add_any p a w.heap.size t _ (HS.out.below ((Below.refl _ _).alloc (Nat.le_refl _) _)) HM.out (by rw [World.size_alloc]; omega) hp (heap_alloc_new w _) rfl).mono ?_; rintro e w1 ⟨rfl, hsa, hb⟩) | go_in)
  go_end0
  exact ⟨rfl, hsa, ((Below.refl B w).alloc hB _).trans hb⟩
end
end Go.Proofs.Qxb6601393a.Smp
