/-
  THE PROOF OF 'Rows.FnAddFilesLinesAsGroupedByFirstSightSaid' ('zzlaws_pkg_standin_b1.FnAddFilesLinesAsGroupedByFirstSight').
-/
import Derived.Test.Qxb6601393aRows
import Derived.Test.Qxb6601393aTop
import Derived.WalkKit
import Derived.ProofKit
import Derived.OpenShut
import Derived.ShutString
import Derived.ChangeOld
import Derived.Below
import Derived.Deep.SlicePairs
namespace Go.Proofs.Qxb6601393a.fnAddFilesLinesAsGroupedByFirstSight
open Go.ChangeShapes Go.WideShapes Go.ChangeAt Go.RowKit Go.Deep
open Go.ChangeMaps (open_string shut_string)
open Smp

theorem own : ownKnob Try.prog.godebug = none := by kernel_rfl
theorem laidOut : laidOutB Try.prog = true := by kernel_rfl
theorem cells25 : Try.prog.cellsOf 25 = 2 := by kernel_rfl
theorem cells9 : Try.prog.cellsOf 9 = 1 := by kernel_rfl

set_option maxHeartbeats 1600000 in
set_option maxRecDepth 100000 in
theorem long_walk (w : World) (a : Option Addr) (cap : Nat) (ps : Smp.Steps) (hc : Src w a ps) (hn : ps.length ≤ maxLen) (hl : 4096 < ps.length) :
    Calls Try.prog 3 #[.slice a ps.length cap] w fun e w' => e = .returned (.bool true) ∧ Below w.heap.size w w' := by
  have hby := Hid.of (bytes_any w a cap ps hc hn)
  obtain ⟨n, HN⟩ : ∃ n, Hid (ps.length = n) := ⟨_, rfl⟩
  rw [HN.out] at hn hl hby ⊢
  unfold maxLen at hn
  clear hc
  go_enter Try.func3, Try.ntmps3
  go_wp2_with (first | (go_at_call 5; refine hby.out.mono ?_; rintro e w1 ⟨⟨v, rfl⟩, hb1⟩; cases v))
  · go_ret
    exact ⟨rfl, hb1⟩
  · go_ret
    exact ⟨rfl, hb1⟩

theorem walk (w : World) (a : Option Addr) (cap : Nat) (ps : Smp.Steps) (hc : Src w a ps) (hla : Lies a ps.length cap) (hn : ps.length ≤ maxLen) :
    Calls Try.prog 3 #[.slice a ps.length cap] w fun e w' => e = .returned (.bool true) ∧ Below w.heap.size w w' := by
  by_cases h : ps.length ≤ 4096
  · exact top_any w a cap ps hc hla h
  · exact long_walk w a cap ps hc hn (by omega)

def strOf : Value → ByteArray | .string s => s | _ => ByteArray.empty
def stepsOf (n : Nat) (V0 V1 : Nat → Value) : Smp.Steps := (List.range n).map fun i => (strOf (V0 i), strOf (V1 i))
theorem steps_length (n : Nat) (V0 V1 : Nat → Value) : (stepsOf n V0 V1).length = n := by simp [stepsOf]
theorem steps_at {n : Nat} {V0 V1 : Nat → Value} {i : Nat} (h : i < n) : pth (stepsOf n V0 V1) i = strOf (V0 i) ∧ acp (stepsOf n V0 V1) i = strOf (V1 i) := by
  simp [pth, acp, stepsOf, List.getD, h]

/-- What a reading of a slice of steps gives the walk. -/
theorem opened {H : Type} {enc : TypeId × Value → H} {W : World} {base : Nat} {sp : Nat → Bool} {v : Value} {d : DataW H} {p : List MemPlace}
    (hval : Value.okWide Try.prog W .any base 22 v) (h : DataW.Trod enc Try.prog W 0 sp true 22 v d p) :
    ∃ a cap ps, v = .slice a (List.length (α := ByteArray × ByteArray) ps) cap ∧ Src W a ps ∧ Lies a ps.length cap ∧ ps.length ≤ maxLen := by
  obtain ⟨a, len, cap, rfl⟩ := okWide_slice Try.underlying22 hval
  obtain ⟨fuel, hf⟩ := h
  rcases open_slice_pairs Try.underlying22 Try.underlying25 cells25 rfl rfl cells9 cells9 hf with ⟨hcs, _⟩ | ⟨x, l, c, m, n, V0, V1, D0, D1, P0, P1, hcs, _, hl, hm, hmm, _, hcell⟩
  · simp [Value.cells] at hcs
    obtain ⟨rfl, rfl, rfl⟩ := hcs
    exact ⟨none, 0, [], rfl, fun i hi => by simp at hi, .inl ⟨rfl, rfl, rfl⟩, Nat.zero_le _⟩
  · simp [Value.cells] at hcs
    obtain ⟨rfl, rfl, rfl⟩ := hcs
    have hspot : x.spot = none := by
      simp only [Value.okWide, Try.underlying22, Cell.okWide, Cell.ok] at hval
      exact hval.2.2.2.1
    obtain ⟨b, o, s⟩ := x
    have hs : s = none := hspot
    subst hs
    have hlm : len ≤ m := by rw [hmm]; split <;> omega
    refine ⟨some ⟨b, o, none⟩, cap, stepsOf len V0 V1, by rw [steps_length], ?_, .inr ⟨b, o, rfl⟩, by rw [steps_length]; omega⟩
    intro i hi
    rw [steps_length] at hi
    obtain ⟨h0, h1, t0, t1⟩ := hcell i (by omega)
    obtain ⟨s0, e0, _, z0⟩ := DataW.trod_string Try.underlying9 t0
    obtain ⟨s1, e1, _, z1⟩ := DataW.trod_string Try.underlying9 t1
    simp only [List.cons.injEq, and_true] at e0 e1
    obtain ⟨p0, p1⟩ := steps_at (V0 := V0) (V1 := V1) hi
    have ad : ∀ k, (⟨b, o, none⟩ : Addr).add k = ⟨b, o + k, none⟩ := fun k => by
      unfold Addr.add
      by_cases hk : k = 0
      · rw [if_pos hk, hk]; rfl
      · rw [if_neg hk]
    rw [ad] at h0 h1
    rw [p0, p1, e0, e1]
    refine ⟨b, o, block_lt_of_cell h0, rfl, ?_, ?_, z0, z1⟩
    · rw [h0, e0]; rfl
    · rw [show o + i * 2 + 1 = o + (i * 2 + 1) from by omega, h1, e1]; rfl

/-! ### THE ROW's STEP -/
set_option maxRecDepth 100000 in
theorem lifted (os : Os) (started : os.Started) (H : Type) (enc : TypeId × Value → H) :
    ReturnsInHanded {} Try.checked os 3 .any (Rows.fnAddFilesLinesAsGroupedByFirstSightSpec.pre6 enc Try.prog Try.f3 Rows.fnAddFilesLinesAsGroupedByFirstSightRow.domain false) (Rows.fnAddFilesLinesAsGroupedByFirstSightSpec.post enc Try.prog Try.f3 false true false false) := by
  refine returnsInHanded_of_change (C := Try.checked) own started (by kernel_rfl) Try.func3
    (ChangeSpec.witness6 (enc := enc) (C := Try.checked) false ⟨#[], #[.slice none 0 0], []⟩ 8 (by kernel_rfl) (by kernel_rfl) (by kernel_rfl) (by kernel_rfl)) ?_
  intro W base args ds gs before hval0 hW hcnd _
  have hval : ∀ (j : Nat) t v, Try.f3.params[j]? = some t → args[j]? = some v → Value.okWide Try.prog W .any base t v := hval0
  have hW' := hW
  obtain ⟨p, q, hA0, hV, rfl, hfz, hnd⟩ := hW
  have hA : DataW.TrodAll enc Try.prog W 0 (fun _ => true) true Try.f3.params.toList args.toList ds p := hA0
  rw [Try.params3] at hA hval
  obtain ⟨v0, vs0, d0, ds0, p0, q0, hargs, rfl, rfl, h0, r0⟩ := trodAll_cons hA
  obtain ⟨rfl, rfl, rfl⟩ := trodAll_nil r0
  obtain rfl : args = #[v0] := by cases args; simp_all
  obtain ⟨rfl, rfl⟩ := trodVars_none hV
  have k0 := h0
  have lt0 : ∀ x ∈ p0, x.block < W.heap.size := by obtain ⟨m, hm⟩ := k0; exact DataW.trod_lt m _ _ _ hm
  obtain ⟨a0, cap0, ps, rfl, hsrc, hlies, hlen⟩ := opened (hval 0 22 v0 rfl rfl) h0
  clear hA0 hval0
  refine (walk W a0 cap0 ps hsrc hlies hlen).mono fun e W' ⟨he, bel⟩ => ?_
  subst he
  exact ⟨_, rfl, _, _, _, [], _, [], hW', trodAll_mk1 (shut_bool Try.underlying4 _), (trodAll_cons_mk (Below.trod laidOut (by kernel_rfl) (of_decide_eq_true (by kernel_rfl)) k0 bel lt0) trodAll_mk0), rfl, bel.frame _, fun h => by cases h⟩

theorem over : Rows.fnAddFilesLinesAsGroupedByFirstSightRow.holds Try.pinned (OpenSpec.ofChange Rows.fnAddFilesLinesAsGroupedByFirstSightSpec) :=
  OpenClaim.holds_of_wide 3 Try.f3 rfl rfl rfl rfl rfl rfl rfl ⟨rfl, rfl, rfl, rfl, rfl⟩ rfl rfl rfl rfl rfl (by kernel_rfl) Try.func3 (by kernel_rfl)
    (of_decide_eq_true (by kernel_rfl)) (by unfold Func.isWrapper; first | (rw [if_pos (by decide +kernel)]; kernel_rfl) | (rw [if_neg (by decide +kernel)]; exact ⟨rfl, rfl⟩))
    (fun os started H enc _ => lifted os started H enc)

/-- ████ THE STATEMENT ████ -/
theorem proved : Rows.FnAddFilesLinesAsGroupedByFirstSightSaid := over
end Go.Proofs.Qxb6601393a.fnAddFilesLinesAsGroupedByFirstSight
