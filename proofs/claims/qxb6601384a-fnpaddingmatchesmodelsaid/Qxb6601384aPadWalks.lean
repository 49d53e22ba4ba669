/- The walks of the functions on the road of FnPaddingMatchesModel. -/
import Derived.Test.Qxb6601384aRows
import Derived.Test.Qxb6601384aPadPlain
import Derived.WalkKit
import Derived.WalkLawsBesides
namespace Go.Proofs.Qxb6601384a.Pad
open Go.RowKit

theorem ret_bool {a b : Bool} (h : a = b) : Ending.returned (.bool a) = .returned (.bool b) := by rw [h]

set_option maxHeartbeats 400000 in
theorem has_any (s : ByteArray) (b : Int) (w : World) (hs : s.size ≤ maxLen) :
    Calls Try.prog 19 #[.string s, .int .u8 b] w fun e w' => e = .returned (.bool (hasB s.data.toList b)) ∧ w' = w := by
  unfold maxLen at hs
  go_enter Try.func19, Try.ntmps19
  go_wp2
  go_loop [5] (fun i => ∃ k : Nat, k ≤ s.size ∧ i = .int .i64 k ∧ hasB (s.data.toList.take k) b = false) (fun i => s.size - (intOf i).toNat)
  case atStart => exact ⟨0, Nat.zero_le _, rfl, rfl⟩
  case round =>
    obtain ⟨k, hk, rfl, hno⟩ := hrel
    by_cases hlt : k < s.size
    · have hsn := hasB_snoc (s.data.toList.take k) s[k] b
      rw [← take_snoc s k hlt, hno] at hsn
      have hmem : s[k] ∈ s.data.toList := by
        have h2 : s[k] ∈ s.data.toList.drop k := by rw [drop_cons s k hlt]; simp
        exact List.mem_of_mem_drop h2
      by_cases hb : ((s[k].toNat : Int) == b) = true
      · have hfin := hasB_mem s.data.toList b _ hmem hb
        have H : Hid (hasB s.data.toList b = true) := hfin
        clear hfin hsn hno hmem
        go_wp2
        go_ret
        exact ⟨ret_bool H.out.symm, rfl⟩
      · have hb' : ((s[k].toNat : Int) == b) = false := by simpa using hb
        have H : Hid (hasB (s.data.toList.take (k + 1)) b = false) := by rw [hb'] at hsn; exact hsn
        clear hsn hno hmem hb
        go_wp2
        go_round
        case rel => exact ⟨k + 1, by omega, by go_num, H.out⟩
        case measure => simp [intOf]; omega
    · have e : s.data.toList.take k = s.data.toList := List.take_of_length_le (by
        have : s.data.toList.length = s.size := Array.length_toList
        omega)
      have H : Hid (hasB s.data.toList b = false) := by rw [e] at hno; exact hno
      clear e hno
      go_wp2
      go_ret
      exact ⟨ret_bool H.out.symm, rfl⟩

/-! 'padding': the struct comes in by value and is boxed; then the range over the flags. -/
theorem Hid.of {p : Prop} (h : p) : Hid p := h
theorem ret_two {a b c d : Int} (h : a = b) (k : c = d) : Ending.returned (.tuple #[.int .i64 a, .int .u8 c]) = .returned (.tuple #[.int .i64 b, .int .u8 d]) := by rw [h, k]
theorem next_at (w : World) (o : Obj) (s : ByteArray) (pos : Nat) (h : pos < s.size) (f n : Nat) (hD : Utf8.decode s pos = (f, n)) (ty : TypeId) :
    (Instr.next (.pointer (some ⟨w.heap.size + 1, 0, none⟩)) true ty).run Try.prog ((w.alloc o).iter s pos) =
      .ok (.tuple #[.bool true, .int .i64 pos, .int .i32 f]) ((w.alloc o).iter s (pos + n)) := by
  have := run_next_any (P := Try.prog) (w.alloc o) s pos ty h
  rw [World.size_alloc, hD] at this
  exact this
theorem next_end (w : World) (o : Obj) (s : ByteArray) (pos : Nat) (h : ¬ pos < s.size) (ty : TypeId) :
    (Instr.next (.pointer (some ⟨w.heap.size + 1, 0, none⟩)) true ty).run Try.prog ((w.alloc o).iter s pos) = .ok (.tuple #[.bool false]) ((w.alloc o).iter s pos) := by
  have := run_next_end (P := Try.prog) (w.alloc o) s pos ty h
  rw [World.size_alloc] at this
  exact this
theorem iterPos_at (w : World) (o : Obj) (s : ByteArray) (pos : Nat) : ((w.alloc o).iter s pos).iterPos (w.heap.size + 1) = pos := by
  have := World.iterPos_iter (w.alloc o) s pos
  rwa [World.size_alloc] at this
theorem rune_ways (f : Nat) (W P tW tP : Int) (l l' : List UInt8) (h1 : widP W l = tW) (h2 : padP P l = tP)
    (h3 : padP P l = padP (if (f : Int) = 95 then 32 else if (f : Int) = 48 then 48 else P) l') (h4 : widP W l = widP (if (f : Int) = 45 then 0 else W) l') :
    (((f : Int) == 45) = true ∧ Hid (widP 0 l' = tW) ∧ Hid (padP P l' = tP)) ∨
    (((f : Int) == 45) = false ∧ ((f : Int) == 95) = true ∧ Hid (widP W l' = tW) ∧ Hid (padP 32 l' = tP)) ∨
    (((f : Int) == 45) = false ∧ ((f : Int) == 95) = false ∧ ((f : Int) == 48) = true ∧ Hid (widP W l' = tW) ∧ Hid (padP 48 l' = tP)) ∨
    (((f : Int) == 45) = false ∧ ((f : Int) == 95) = false ∧ ((f : Int) == 48) = false ∧ Hid (widP W l' = tW) ∧ Hid (padP P l' = tP)) := by
  rw [h1] at h4
  rw [h2] at h3
  simp only [beq_iff_eq, beq_eq_false_iff_ne]
  by_cases c1 : (f : Int) = 45
  · rw [if_pos c1] at h4
    rw [if_neg (by omega), if_neg (by omega)] at h3
    exact .inl ⟨c1, h4.symm, h3.symm⟩
  · rw [if_neg c1] at h4
    by_cases c2 : (f : Int) = 95
    · rw [if_pos c2] at h3
      exact .inr (.inl ⟨c1, c2, h4.symm, h3.symm⟩)
    · rw [if_neg c2] at h3
      by_cases c3 : (f : Int) = 48
      · rw [if_pos c3] at h3
        exact .inr (.inr (.inl ⟨c1, c2, c3, h4.symm, h3.symm⟩))
      · rw [if_neg c3] at h3
        exact .inr (.inr (.inr ⟨c1, c2, c3, h4.symm, h3.symm⟩))
set_option maxHeartbeats 1000000 in
set_option maxRecDepth 100000 in
theorem padding_any (s : ByteArray) (dw c w1 : Int) (cv p : Int) (w : World) :
    Calls Try.prog 18 #[.agg #[.string s, .int .i64 dw, .int .i64 c, .int .u8 cv], .int .i64 w1, .int .u8 p] w fun e w' =>
      e = .returned (.tuple #[.int .i64 (widP (dirW dw w1) s.data.toList), .int .u8 (padP p s.data.toList)]) ∧ Below w.heap.size w w' := by
  by_cases hd : 0 ≤ dw
  all_goals
    go_enter Try.func18, Try.ntmps18
    go_wp2
    go_loopw [1, 2] (fun a b wr => ∃ (pos : Nat) (W P : Int), wr = (w.alloc (.cells #[.string s, .int .i64 dw, .int .i64 c, .int .u8 cv] 35)).iter s pos ∧ pos ≤ s.size ∧ a = .int .i64 W ∧ b = .int .u8 P ∧
        widP W (s.data.toList.drop pos) = widP (dirW dw w1) s.data.toList ∧ padP P (s.data.toList.drop pos) = padP p s.data.toList)
      (fun _ _ wr => s.size - wr.iterPos (w.heap.size + 1))
    case atStart => exact ⟨0, _, _, rfl, Nat.zero_le _, rfl, rfl, by first | rw [dirW_pos _ _ hd]; rfl | rw [dirW_neg _ _ (by omega)]; rfl, rfl⟩
    case round =>
      obtain ⟨pos, W, P, rfl, hpos, rfl, rfl, hwid, hpad⟩ := hrel
      have HW : Hid (widP W (s.data.toList.drop pos) = widP (dirW dw w1) s.data.toList) := hwid
      have HP : Hid (padP P (s.data.toList.drop pos) = padP p s.data.toList) := hpad
      clear hwid hpad
      by_cases hp : pos < s.size
      · have st := step_rune s pos hp W P
        have hle := decode_le s pos
        obtain ⟨⟨f, n⟩, hD⟩ : ∃ D, Utf8.decode s pos = D := ⟨_, rfl⟩
        have hnx := next_at w (.cells #[.string s, .int .i64 dw, .int .i64 c, .int .u8 cv] 35) s pos hp f n hD
        rw [hD] at st hle
        simp only [] at st hle
        obtain ⟨st1, st2, st3, st4⟩ := st
        have wy := rune_ways f W P _ _ _ _ HW.out HP.out st3 st4
        clear hD st3 st4 HW HP
        rcases wy with ⟨t1, HX, HY⟩ | ⟨t1, t2, HX, HY⟩ | ⟨t1, t2, t3, HX, HY⟩ | ⟨t1, t2, t3, HX, HY⟩
        all_goals
          go_wp2
          go_roundw
          case rel => exact ⟨pos + n, _, _, rfl, st1, rfl, rfl, HX.out, HY.out⟩
          case measure => rw [iterPos_at, iterPos_at]; omega
      · have hnx := next_end w (.cells #[.string s, .int .i64 dw, .int .i64 c, .int .u8 cv] 35) s pos hp
        have e := at_end s pos hp
        rw [e] at HW HP
        clear e
        go_wp2
        go_ret2
        exact ⟨ret_two HW.out HP.out, ((Below.refl _ _).alloc (Nat.le_refl _) _).alloc (by simp) _⟩

theorem zzpad_any (s : ByteArray) (dw c w1 : Int) (cv p : Int) (w : World) :
    Calls Try.prog 8 #[.string s, .int .i64 dw, .int .i64 c, .int .u8 cv, .int .i64 w1, .int .u8 p] w fun e w' =>
      e = .returned (.tuple #[.int .i64 (widP (dirW dw w1) s.data.toList), .int .u8 (padP p s.data.toList)]) ∧ Below w.heap.size w w' := by
  go_enter Try.func8, Try.ntmps8
  go_wp2_with (go_at_call 18; refine (padding_any _ _ _ _ _ _ _).mono ?_; rintro e w' ⟨rfl, hb⟩)
  go_ret2
  exact ⟨rfl, ((Below.refl _ _).alloc (Nat.le_refl _) _).trans (hb.mono (by simp))⟩

/-- The model: the width by a case table, the pad found from the right. -/
theorem model_pad (s : ByteArray) (p : Int) (i : Nat) (hi : i < s.size) (h : padP p s.data.toList = padP p (s.data.toList.take (i + 1))) :
    (((s[i].toNat : Int) == 95) = true ∧ Hid (padP p s.data.toList = 32)) ∨
    (((s[i].toNat : Int) == 95) = false ∧ ((s[i].toNat : Int) == 48) = true ∧ Hid (padP p s.data.toList = 48)) ∨
    (((s[i].toNat : Int) == 95) = false ∧ ((s[i].toNat : Int) == 48) = false ∧ Hid (padP p s.data.toList = padP p (s.data.toList.take i))) := by
  rw [take_snoc s i hi, padP_snoc] at h
  simp only [beq_iff_eq, beq_eq_false_iff_ne]
  unfold padStep at h
  by_cases c1 : (s[i].toNat : Int) = 95
  · rw [if_pos c1] at h; exact .inl ⟨c1, h⟩
  · rw [if_neg c1] at h
    by_cases c2 : (s[i].toNat : Int) = 48
    · rw [if_pos c2] at h; exact .inr (.inl ⟨c1, c2, h⟩)
    · rw [if_neg c2] at h; exact .inr (.inr ⟨c1, c2, h⟩)
theorem model_wid (l : List UInt8) (dw w1 : Int) :
    (hasB l 45 = true ∧ Hid (0 = widP (dirW dw w1) l)) ∨ (hasB l 45 = false ∧ 0 ≤ dw ∧ Hid (dw = widP (dirW dw w1) l)) ∨ (hasB l 45 = false ∧ ¬ 0 ≤ dw ∧ Hid (w1 = widP (dirW dw w1) l)) := by
  have e := widP_eq l (dirW dw w1)
  by_cases h : hasB l 45 = true
  · rw [if_pos h] at e; exact .inl ⟨h, e.symm⟩
  · rw [if_neg h] at e
    have h' : hasB l 45 = false := by simpa using h
    by_cases hd : 0 ≤ dw
    · rw [dirW_pos _ _ hd] at e; exact .inr (.inl ⟨h', hd, by rw [dirW_pos _ _ hd]; exact e.symm⟩)
    · rw [dirW_neg _ _ hd] at e; exact .inr (.inr ⟨h', hd, by rw [dirW_neg _ _ hd]; exact e.symm⟩)

set_option maxHeartbeats 2000000 in
theorem modelpad_any (s : ByteArray) (dw w1 : Int) (p : Int) (w : World) (hs : s.size ≤ maxLen) :
    Calls Try.prog 9 #[.string s, .int .i64 dw, .int .i64 w1, .int .u8 p] w fun e w' =>
      e = .returned (.tuple #[.int .i64 (widP (dirW dw w1) s.data.toList), .int .u8 (padP p s.data.toList)]) ∧ w' = w := by
  have hs' : s.size ≤ maxLen := hs
  unfold maxLen at hs
  have hlen : s.data.toList.length = s.size := Array.length_toList
  have hall : Hid (padP p s.data.toList = padP p (s.data.toList.take s.size)) := by
    show _ = _
    rw [List.take_of_length_le (by omega)]
  clear hlen
  rcases model_wid s.data.toList dw w1 with ⟨hb, HX⟩ | ⟨hb, hd, HX⟩ | ⟨hb, hd, HX⟩
  all_goals
    go_enter Try.func9, Try.ntmps9
    go_wp2_with (go_at_call 19; refine (has_any _ _ _ (by exact hs')).mono ?_; rintro e w' ⟨rfl, hw⟩; subst hw)
    go_loop [11, 12] (fun a i => ∃ k : Nat, k ≤ s.size ∧ a = .int .u8 p ∧ i = .int .i64 k ∧ padP p s.data.toList = padP p (s.data.toList.take k)) (fun _ i => (intOf i).toNat)
    case atStart => exact ⟨s.size, Nat.le_refl _, rfl, rfl, hall.out⟩
    case round =>
      obtain ⟨k, hk, rfl, rfl, hp⟩ := hrel
      have HP := Hid.of hp
      clear hp hall
      cases k with
      | zero =>
        go_wp2
        go_ret2
        exact ⟨ret_two HX.out HP.out.symm, rfl⟩
      | succ j =>
        rcases model_pad s p j (by omega) HP.out with ⟨t1, HY⟩ | ⟨t1, t2, HY⟩ | ⟨t1, t2, HY⟩
        · clear HP
          go_wp2
          go_ret2
          exact ⟨ret_two HX.out HY.out.symm, rfl⟩
        · clear HP
          go_wp2
          go_ret2
          exact ⟨ret_two HX.out HY.out.symm, rfl⟩
        · clear HP
          go_wp2
          go_round
          case rel => exact ⟨j, by omega, rfl, by go_num, HY.out⟩
          case measure => simp [intOf]
end Go.Proofs.Qxb6601384a.Pad
