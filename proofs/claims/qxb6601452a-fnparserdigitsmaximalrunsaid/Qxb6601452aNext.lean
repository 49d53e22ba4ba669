/- (*parser).next and ZZParserNext. -/
import Derived.Test.Qxb6601452aClone
import Derived.Test.Qxb6601452aPlain
import Derived.Deep.AppendLies
import Derived.Deep.QuietTactic
import Derived.BigQuiet
namespace Go.Proofs.Qxb6601452a.Jcs
open Go.RowKit

/-- The data, as the scan reads it: n bytes zs, in a block below pb. -/
def Dat (w : World) (pb : Nat) (a : Option Addr) (n : Nat) (zs : List Int) : Prop :=
  zs.length = n ∧ ∀ k, k < n → ∃ g, a = some ⟨g, 0, none⟩ ∧ g < pb ∧ w.cell? ⟨g, k, none⟩ = some (.int .u8 (zs.getD k 0))

/-- The parser's block in a round. -/
structure Pw (w wr : World) (pb : Nat) (a : Option Addr) (n c : Nat) (k : Int) (ij : Bool) : Prop where
  c0 : wr.cell? ⟨pb, 0, none⟩ = some (.slice a n c)
  c1 : wr.cell? ⟨pb, 1, none⟩ = some (.int .i64 k)
  c2 : wr.cell? ⟨pb, 2, none⟩ = some (.bool ij)
  f1 : wr.frozen? ⟨pb, 1, none⟩ = false
  bel : Below pb w wr
theorem Pw.drewN {w wr : World} {pb : Nat} {a : Option Addr} {n c : Nat} {k : Int} {ij : Bool} (h : Pw w wr pb a n c k ij) (q : Nat) : Pw w (wr.drewN q) pb a n c k ij :=
  ⟨h.c0, h.c1, h.c2, h.f1, ⟨h.bel.os, h.bel.tape, h.bel.output, h.bel.size, h.bel.block⟩⟩
theorem Pw.store {w wr : World} {pb : Nat} {a : Option Addr} {n c : Nat} {k : Int} {ij : Bool} (h : Pw w wr pb a n c k ij) (k' : Int) : Pw w (wr.setCell ⟨pb, 1, none⟩ (.int .i64 k')) pb a n c k' ij := by
  refine ⟨?_, ?_, ?_, ?_, h.bel.setCell (Nat.le_refl _) _⟩
  · exact (World.cell?_setCell_other _ _ _ _ (by simp)).trans h.c0
  · exact World.cell?_setCell_same _ _ _ h.c1
  · exact (World.cell?_setCell_other _ _ _ _ (by simp)).trans h.c2
  · rw [World.frozen?_setCell]; exact h.f1

/-- The position that the parser's block holds: for a loop's measure. -/
def posAt (w : World) (pb : Nat) : Nat := match w.cell? ⟨pb, 1, none⟩ with | some (.int _ k) => k.toNat | _ => 0
theorem Pw.pos {w wr : World} {pb : Nat} {a : Option Addr} {n c : Nat} {k : Nat} {ij : Bool} (h : Pw w wr pb a n c k ij) : posAt wr pb = k := by
  unfold posAt; rw [h.c1]; simp

theorem measure_step {w wr : World} {pb : Nat} {a : Option Addr} {n c : Nat} {k : Nat} {ij : Bool} (h : Pw w wr pb a n c k ij) (q : Nat) (hlt : k < n) : n - posAt ((wr.drewN q).setCell ⟨pb, 1, none⟩ (.int .i64 ((k : Int) + 1))) pb < n - posAt wr pb := by
  have e := ((h.drewN q).store ((k + 1 : Nat) : Int)).pos
  rw [show ((k : Int) + 1) = ((k + 1 : Nat) : Int) from by omega, e, h.pos]
  omega

theorem sp_ways (z : Int) : ((z == 32) = true ∧ isSp z = true) ∨ ((z == 32) = false ∧ (z == 9) = true ∧ isSp z = true) ∨ ((z == 32) = false ∧ (z == 9) = false ∧ (z == 10) = true ∧ isSp z = true) ∨
    ((z == 32) = false ∧ (z == 9) = false ∧ (z == 10) = false ∧ (z == 13) = true ∧ isSp z = true) ∨ ((z == 32) = false ∧ (z == 9) = false ∧ (z == 10) = false ∧ (z == 13) = false ∧ isSp z = false) := by
  unfold isSp
  cases z == 32 <;> cases z == 9 <;> cases z == 10 <;> cases z == 13 <;> simp

set_option maxHeartbeats 1600000 in
theorem next_any (w : World) (pb : Nat) (a : Option Addr) (n c : Nat) (p : Nat) (ij : Bool) (zs : List Int) (hd : Dat w pb a n zs) (hp : Pw w w pb a n c p ij) (hn : n ≤ 65536) :
    Calls Try.prog 16 #[.pointer (some ⟨pb, 0, none⟩)] w fun e w' => e = .returned (.int .u8 ((zs[stop isSp zs p]?).getD 255)) ∧ Pw w w' pb a n c (stop isSp zs p : Nat) ij := by
  have HL := Hid.of hd.1
  go_enter Try.func16, Try.ntmps16
  go_wp2
  go_loopw [3] (fun _ wr => ∃ k : Nat, Pw w wr pb a n c k ij ∧ stop isSp zs p = stop isSp zs k ∧ p ≤ k) (fun _ wr => n - posAt wr pb)
  case atStart => exact ⟨p, hp, rfl, Nat.le_refl _⟩
  case round =>
    obtain ⟨k, hw, hst, hpk⟩ := hrel
    have HST := Hid.of hst
    clear hst hp
    have hc0 := hw.c0
    have hc1 := hw.c1
    have hf1 := hw.f1
    by_cases hlt : k < n
    · obtain ⟨g, rfl, hg, hcell⟩ := hd.2 k hlt
      have i1 : (k : Int) < (n : Int) := by omega
      have hz : wr.cell? ⟨g, k, none⟩ = some (.int .u8 (zs.getD k 0)) := (hw.bel.cell (p := ⟨g, k, none⟩) hg).trans hcell
      clear hcell
      obtain ⟨z, HZ⟩ : ∃ z, Hid (zs.getD k 0 = z) := ⟨_, rfl⟩
      rw [HZ.out] at hz
      rcases sp_ways z with ⟨t1, hsp⟩ | ⟨t1, t2, hsp⟩ | ⟨t1, t2, t3, hsp⟩ | ⟨t1, t2, t3, t4, hsp⟩ | ⟨t1, t2, t3, t4, hsp⟩
      iterate 4
        have HY := Hid.of (stop_yes isSp zs k (by rw [HL.out]; exact hlt) (by rw [HZ.out]; exact hsp))
        clear hsp
        go_wp2
        go_quiet (fail)
        go_wp2
        go_quiet (fail)
        go_wp2
        go_roundw
        case rel => exact ⟨k + 1, (hw.drewN _).store _, HST.out.trans HY.out, by omega⟩
        case measure => exact measure_step hw _ hlt
      · have HY := Hid.of (stop_no isSp zs k (by rw [HL.out]; exact hlt) (by rw [HZ.out]; exact hsp))
        clear hsp
        go_wp2
        go_quiet (fail)
        go_wp2
        go_quiet (fail)
        go_wp2
        go_ret
        have e1 : stop isSp zs p = k := HST.out.trans HY.out
        have e2 : zs[stop isSp zs p]?.getD 255 = z := by
          have hlz : k < zs.length := by rw [HL.out]; exact hlt
          rw [e1, List.getElem?_eq_getElem hlz, ← HZ.out]
          simp [List.getD, List.getElem?_eq_getElem hlz]
        refine ⟨?_, ?_⟩
        · rw [e2]; rfl
        · rw [e1]; exact hw.drewN _
    · have d1 : decide ((k : Int) < (n : Int)) = false := decide_eq_false (by omega)
      have HY := Hid.of (stop_end isSp zs k (by rw [HL.out]; omega))
      go_wp2
      go_quiet (fail)
      go_wp2
      go_ret
      have e1 : stop isSp zs p = k := HST.out.trans HY.out
      have e2 : zs[stop isSp zs p]?.getD 255 = 255 := by
        rw [e1, List.getElem?_eq_none (by rw [HL.out]; omega)]; rfl
      refine ⟨?_, ?_⟩
      · rw [e2]; rfl
      · rw [e1]; exact hw.drewN _

/-- The parser's block as ZZParserNext lays it. -/
theorem Pw.made (w : World) (a : Option Addr) (n c : Nat) (p : Int) (ij : Bool) : Pw (w.alloc (.cells #[.slice a n c, .int .i64 p, .bool ij] 32)) (w.alloc (.cells #[.slice a n c, .int .i64 p, .bool ij] 32)) w.heap.size a n c p ij :=
  ⟨by go_simp, by go_simp, by go_simp, by go_simp, Below.refl _ _⟩
theorem Dat.alloc {w : World} {a : Option Addr} {n : Nat} {zs : List Int} (h : Dat w w.heap.size a n zs) (o : Obj) : Dat (w.alloc o) w.heap.size a n zs :=
  ⟨h.1, fun k hk => by
    obtain ⟨g, ha, hg, hc⟩ := h.2 k hk
    exact ⟨g, ha, hg, (((Below.refl w.heap.size w).alloc (Nat.le_refl _) o).cell (p := ⟨g, k, none⟩) hg).trans hc⟩⟩

set_option maxHeartbeats 800000 in
theorem zznext_any (w : World) (a : Option Addr) (n c : Nat) (p : Nat) (ij : Bool) (zs : List Int) (hd : Dat w w.heap.size a n zs) (hn : n ≤ 65536) :
    Calls Try.prog 9 #[.slice a n c, .int .i64 p, .bool ij] w fun e w' =>
      e = .returned (.tuple #[.int .u8 ((zs[stop isSp zs p]?).getD 255), .int .i64 (stop isSp zs p : Nat), .slice a n c, .bool ij]) ∧ Below w.heap.size w w' := by
  have hd' := hd.alloc (.cells #[.slice a n c, .int .i64 p, .bool ij] 32)
  have hp := Pw.made w a n c p ij
  clear hd
  go_enter Try.func9, Try.ntmps9
  go_wp2_with (first | (go_at_call 16; refine (next_any _ w.heap.size a n c p ij zs hd' hp hn).mono ?_; rintro e w1 ⟨rfl, hq⟩; have q0 := hq.c0; have q1 := hq.c1; have q2 := hq.c2))
  go_quiet (fail)
  go_wp2
  refine bodyPost_ret (v := .tuple #[.int .u8 ((zs[stop isSp zs p]?).getD 255), .int .i64 (stop isSp zs p : Nat), .slice a n c, .bool ij]) (by simp [results, Try.results9, go_sem]) rfl ⟨rfl, ?_⟩
  exact ((Below.refl _ _).alloc (Nat.le_refl _) _).trans (hq.drewN _).bel
end Go.Proofs.Qxb6601452a.Jcs
