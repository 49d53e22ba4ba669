/- FnShapeOfMatchesModel: the walk. -/
import Derived.Test.Qxb6601384aShModel2
import Derived.Deep.QuietTactic
import Derived.BigQuiet
namespace Go.Proofs.Qxb6601384a.Sh
open Go.RowKit

theorem owns_slice {w : World} {B n : Nat} {v : Value} {xs : List Value} (h : w.ownsRow B 5 1 v n xs) : ∃ a c, v = .slice a n c := by
  rcases h.2 with ⟨rfl, rfl⟩ | ⟨g, cap, cur, rfl, _⟩
  · exact ⟨none, 0, rfl⟩
  · exact ⟨_, _, rfl⟩
theorem rd_of_owns {w : World} {B n c : Nat} {a : Option Addr} {zs : List Int} (h : w.ownsRow B 5 1 (.slice a n c) n (zs.map (Value.int .u8))) : Rd w a n c zs := by
  have hl : zs.length = n := by have := h.1; simpa using this
  rcases h.2 with ⟨hv, hn⟩ | ⟨g, cap, cur, hv, _, _, hnc, _⟩
  · simp only [Value.slice.injEq] at hv
    obtain ⟨rfl, _, rfl⟩ := hv
    exact ⟨hl, by omega, fun _ => ⟨hn, rfl⟩, fun x hx => by cases hx⟩
  · simp only [Value.slice.injEq, true_and] at hv
    obtain ⟨rfl, rfl⟩ := hv
    refine ⟨hl, hnc, fun hx => by simp at hx, fun x hx i hi => ?_⟩
    simp only [Option.some.injEq] at hx
    subst hx
    rw [WideShapes.add_plain, Nat.zero_add, h.cellAt i (by omega), List.getElem?_map, List.getElem?_eq_getElem (by omega)]
    simp [List.getD, List.getElem?_eq_getElem (show i < zs.length by omega)]
theorem clone2 (a : Option Addr) (len cap : Nat) (zs : List Int) (w : World) (hr : Rd w a len cap zs) (hm : len ≤ 65536) :
    Calls Try.prog 12 #[.slice a len cap] w fun e w' => ∃ a' c', e = .returned (.slice a' len c') ∧ w'.ownsRow w.heap.size 5 1 (.slice a' len c') len (zs.map (Value.int .u8)) ∧ Below w.heap.size w w' :=
  (clone_any a len cap zs w hr hm).mono fun e w' ⟨v, he, ho, hb⟩ => by
    obtain ⟨a', c', rfl⟩ := owns_slice ho
    exact ⟨a', c', he, ho, hb⟩
theorem zzshape2 (v : Value) (n : Nat) (xs : List Value) (s : ByteArray) (B : Nat) (w : World) (hown0 : w.ownsRow B 5 1 v n xs) (hB : B ≤ w.heap.size) (hn : n ≤ 65536) (hs : s.size ≤ 65536) :
    Calls Try.prog 13 #[v, .string s] w fun e w' => ∃ a' c', e = .returned (.slice a' (n + (sh 0 (nums s)).length) c') ∧ w'.ownsRow B 5 1 (.slice a' (n + (sh 0 (nums s)).length) c') (n + (sh 0 (nums s)).length) (xs ++ (sh 0 (nums s)).map (Value.int .u8)) ∧ w.grownBy w' v.ownBlock :=
  (zzshape_any v n xs s B w hown0 hB hn hs).mono fun e w' ⟨v, he, ho, hb⟩ => by
    obtain ⟨a', c', rfl⟩ := owns_slice ho
    exact ⟨a', c', he, ho, hb⟩
theorem model2 (s : ByteArray) (w : World) (hs : s.size ≤ 65536) :
    Calls Try.prog 14 #[.string s] w fun e w' => ∃ a' c', e = .returned (.slice a' (sh 0 (nums s)).length c') ∧ w'.ownsRow (w.heap.size + 1) 5 1 (.slice a' (sh 0 (nums s)).length c') (sh 0 (nums s)).length ((sh 0 (nums s)).map (Value.int .u8)) ∧ Below w.heap.size w w' :=
  (modelShape_any s w hs).mono fun e w' ⟨v, he, ho, hb⟩ => by
    obtain ⟨a', c', rfl⟩ := owns_slice ho
    exact ⟨a', c', he, ho, hb⟩
theorem bytes_yes (a : Option Addr) (len cap : Nat) (s : ByteArray) (w : World) (h1 : len ≤ 65536) (h2 : s.size ≤ 65536) :
    Calls Try.prog 11 #[.slice a len cap, .string s] w fun e w' => e = .returned (.bool true) ∧ w' = w := by
  go_enter Try.func11, Try.ntmps11
  go_wp2
  go_ret
  exact ⟨rfl, rfl⟩
theorem grown_of_below {w w' : World} (h : Below w.heap.size w w') (row : Option Nat) : w.grownBy w' row := ⟨h.os, h.tape, h.output, h.size, fun k hk _ => h.block k hk⟩

/-- What holds of the three slices when the loops begin. -/
structure Three (w4 : World) (B n m : Nat) (zs ys : List Int) (a2 a3 a4 : Option Addr) (c2 c3 c4 : Nat) : Prop where
  before : w4.ownsRow B 5 1 (.slice a2 n c2) n (zs.map (Value.int .u8))
  got : w4.ownsRow B 5 1 (.slice a3 (n + m) c3) (n + m) (zs.map (Value.int .u8) ++ ys.map (Value.int .u8))
  want : w4.ownsRow B 5 1 (.slice a4 m c4) m (ys.map (Value.int .u8))

theorem owns_mono {w : World} {B B' n : Nat} {v : Value} {xs : List Value} (h : w.ownsRow B 5 1 v n xs) (hB : B' ≤ B) : w.ownsRow B' 5 1 v n xs := by
  refine ⟨h.1, ?_⟩
  rcases h.2 with h2 | ⟨g, cap, cur, hv, hb, r⟩
  · exact .inl h2
  · exact .inr ⟨g, cap, cur, hv, by omega, r⟩

theorem three_mk {w w1 w2 w3 w4 : World} {n m : Nat} {zs ys : List Int} {a1 a2 a3 a4 : Option Addr} {c1 c2 c3 c4 : Nat}
    (o1 : w1.ownsRow w.heap.size 5 1 (.slice a1 n c1) n (zs.map (Value.int .u8))) (b1 : Below w.heap.size w w1)
    (o2 : w2.ownsRow w1.heap.size 5 1 (.slice a2 n c2) n (zs.map (Value.int .u8))) (b2 : Below w1.heap.size w1 w2)
    (o3 : w3.ownsRow w.heap.size 5 1 (.slice a3 (n + m) c3) (n + m) (zs.map (Value.int .u8) ++ ys.map (Value.int .u8))) (g3 : w2.grownBy w3 (Value.slice a1 n c1).ownBlock)
    (o4 : w4.ownsRow (w3.heap.size + 1) 5 1 (.slice a4 m c4) m (ys.map (Value.int .u8))) (b4 : Below w3.heap.size w3 w4) :
    Three w4 w.heap.size n m zs ys a2 a3 a4 c2 c3 c4 ∧ Below w.heap.size w w4 := by
  have z1 := b1.size; have z2 := b2.size; have z3 := g3.size; have z4 := b4.size
  refine ⟨⟨?_, ?_, owns_mono o4 (by omega)⟩, ?_⟩
  · have h3 : w3.ownsRow w1.heap.size 5 1 (.slice a2 n c2) n (zs.map (Value.int .u8)) := by
      refine o2.kept g3 ?_
      cases e2 : (Value.slice a2 n c2).ownBlock with
      | none => exact .inl rfl
      | some k =>
        right
        intro e1
        have k2 := (o2.lt k e2).1
        have k1 := (o1.lt k e1.symm).2
        omega
    exact owns_mono (h3.kept (grown_of_below b4 none) (by cases (Value.slice a2 n c2).ownBlock <;> simp)) z1
  · exact o3.kept (grown_of_below b4 none) (by cases (Value.slice a3 (n + m) c3).ownBlock <;> simp)
  · have hb3 : Below w.heap.size w2 w3 := (Below.refl _ _).grown g3 (by omega) (fun k hk => (o1.lt k hk).1)
    exact ((b1.trans (b2.mono z1)).trans hb3).trans (b4.mono (by omega))

theorem owns_at {w : World} {B n c : Nat} {a : Option Addr} {xs : List Value} (h : w.ownsRow B 5 1 (.slice a n c) n xs) (k : Nat) (hk : k < n) : ∃ g, a = some ⟨g, 0, none⟩ ∧ w.cell? ⟨g, k, none⟩ = xs[k]? := by
  obtain ⟨g, cap, hv, _, _⟩ := h.form (by omega)
  simp only [Value.slice.injEq, true_and] at hv
  obtain ⟨rfl, rfl⟩ := hv
  exact ⟨g, rfl, h.cellAt k (by omega)⟩
theorem three_first {w4 : World} {B n m : Nat} {zs ys : List Int} {a2 a3 a4 : Option Addr} {c2 c3 c4 : Nat} (T : Three w4 B n m zs ys a2 a3 a4 c2 c3 c4) (hz : zs.length = n) (k : Nat) (hk : k < n) :
    ∃ (g2 g3 : Nat) (z : Int), a2 = some ⟨g2, 0, none⟩ ∧ a3 = some ⟨g3, 0, none⟩ ∧ w4.cell? ⟨g2, k, none⟩ = some (.int .u8 z) ∧ w4.cell? ⟨g3, k, none⟩ = some (.int .u8 z) := by
  obtain ⟨g2, e2, h2⟩ := owns_at T.before k hk
  obtain ⟨g3, e3, h3⟩ := owns_at T.got k (by omega)
  refine ⟨g2, g3, zs[k]'(by omega), e2, e3, ?_, ?_⟩
  · rw [h2, List.getElem?_map, List.getElem?_eq_getElem (by omega)]; rfl
  · rw [h3, List.getElem?_append_left (by simp; omega), List.getElem?_map, List.getElem?_eq_getElem (by omega)]; rfl
theorem three_second {w4 : World} {B n m : Nat} {zs ys : List Int} {a2 a3 a4 : Option Addr} {c2 c3 c4 : Nat} (T : Three w4 B n m zs ys a2 a3 a4 c2 c3 c4) (hz : zs.length = n) (hy : ys.length = m) (k : Nat) (hk : k < m) :
    ∃ (g4 g3 : Nat) (z : Int), a4 = some ⟨g4, 0, none⟩ ∧ a3 = some ⟨g3, 0, none⟩ ∧ w4.cell? ⟨g4, k, none⟩ = some (.int .u8 z) ∧ w4.cell? ⟨g3, n + k, none⟩ = some (.int .u8 z) := by
  obtain ⟨g4, e4, h4⟩ := owns_at T.want k hk
  obtain ⟨g3, e3, h3⟩ := owns_at T.got (n + k) (by omega)
  refine ⟨g4, g3, ys[k]'(by omega), e4, e3, ?_, ?_⟩
  · rw [h4, List.getElem?_map, List.getElem?_eq_getElem (by omega)]; rfl
  · rw [h3, List.getElem?_append_right (by simp; omega), List.length_map, hz, Nat.add_sub_cancel_left, List.getElem?_map, List.getElem?_eq_getElem (by omega)]; rfl

set_option maxHeartbeats 1600000 in
theorem main_walk (a : Option Addr) (n cap : Nat) (zs : List Int) (s : ByteArray) (w : World) (hr : Rd w a n cap zs) (hn : n ≤ 65536) (hs : s.size ≤ 65536) :
    Calls Try.prog 5 #[.slice a n cap, .string s] w fun e w' => e = .returned (.bool true) ∧ Below w.heap.size w w' := by
  have hys : (sh 0 (nums s)).length ≤ 65536 := by have := sh_length (nums s) 0; rw [nums_length] at this; omega
  have zs_len := hr.1
  have HZ := Hid.of zs_len
  clear zs_len
  have d1 : decide ((65536 : Int) < (n : Int)) = false := decide_eq_false (by omega)
  have d2 : decide ((65536 : Int) < (s.size : Int)) = false := decide_eq_false (by omega)
  go_enter Try.func5, Try.ntmps5
  go_wp2_with (go_at_call 11; refine (bytes_yes _ _ _ _ _ hn hs).mono ?_; rintro e w' ⟨rfl, hw⟩; subst hw)
  refine (clone2 a n cap zs _ hr hn).mono ?_
  rintro e w1 ⟨a1, c1, rfl, o1, b1⟩
  go_wp2_with fail
  refine (clone2 a1 n c1 zs _ (rd_of_owns o1) hn).mono ?_
  rintro e w2 ⟨a2, c2, rfl, o2, b2⟩
  have o1' := o1.kept (grown_of_below b2 none) (by cases (Value.slice a1 n c1).ownBlock <;> simp)
  go_wp2_with fail
  refine (zzshape2 (.slice a1 n c1) n _ s _ _ o1' (Nat.le_trans b1.size b2.size) hn hs).mono ?_
  rintro e w3 ⟨a3, c3, rfl, o3, g3⟩
  go_wp2_with fail
  refine (model2 s _ hs).mono ?_
  rintro e w4 ⟨a4, c4, rfl, o4, b4⟩
  have T := three_mk o1 b1 o2 b2 o3 g3 o4 b4
  clear o1 b1 o2 b2 o1' o3 g3 o4 b4 hr
  obtain ⟨T, hb⟩ := T
  obtain ⟨ys, HY⟩ : ∃ ys, Hid (sh 0 (nums s) = ys) := ⟨_, rfl⟩
  rw [HY.out] at T hys
  rw [HY.out]
  clear HY
  obtain ⟨m, HM⟩ : ∃ m, Hid (ys.length = m) := ⟨_, rfl⟩
  rw [HM.out] at T hys
  rw [HM.out]
  go_wp2
  go_loopw [8] (fun i wr => ∃ k : Nat, k ≤ n ∧ i = .int .i64 k ∧ ∃ q, wr = w4.drewN q) (fun i _ => n - (intOf i).toNat)
  case atStart => exact ⟨0, Nat.zero_le _, rfl, 0, rfl⟩
  case round =>
    obtain ⟨k, hk, rfl, q, rfl⟩ := hrel
    by_cases hlt : k < n
    · obtain ⟨g2, g3, z, rfl, rfl, hc2, hc3⟩ := three_first T HZ.out k hlt
      have i1 : (k : Int) < (n : Int) := by omega
      have i2 : (k : Int) < (n : Int) + (m : Int) := by omega
      go_wp2
      go_quiet (fail)
      go_wp2
      go_roundw
      case rel => exact ⟨k + 1, by omega, by go_num, _, rfl⟩
      case measure => simp [intOf]; omega
    · go_wp2
      go_loopw [9] (fun i wr => ∃ k : Nat, k ≤ m ∧ i = .int .i64 k ∧ ∃ q, wr = w4.drewN q) (fun i _ => m - (intOf i).toNat)
      case atStart => exact ⟨0, Nat.zero_le _, rfl, q, rfl⟩
      case round =>
        obtain ⟨k2, hk2, rfl, q2, rfl⟩ := hrel
        by_cases hlt2 : k2 < m
        · obtain ⟨g4, g3, z, rfl, rfl, hc2, hc3⟩ := three_second T HZ.out HM.out k2 hlt2
          have i1 : (k2 : Int) < (m : Int) := by omega
          have i2 : (n : Int) + (k2 : Int) < (n : Int) + (m : Int) := by omega
          go_wp2
          go_quiet (fail)
          go_wp2
          go_roundw
          case rel => exact ⟨k2 + 1, by omega, by go_num, _, rfl⟩
          case measure => simp [intOf]; omega
        · go_wp2
          go_ret
          exact ⟨rfl, below_drewN hb _⟩
end Go.Proofs.Qxb6601384a.Sh
