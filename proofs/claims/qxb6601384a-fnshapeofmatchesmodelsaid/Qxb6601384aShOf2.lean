/- shapeOf: the walk. -/
import Derived.Test.Qxb6601384aShOf
namespace Go.Proofs.Qxb6601384a.Sh
open Go.RowKit

/-- Since w0 only v0's own row and new blocks were written; v lies there. -/
def Fr (w0 wr : World) (v0 v : Value) : Prop := w0.grownBy wr v0.ownBlock ∧ ∀ k, v.ownBlock = some k → v0.ownBlock = some k ∨ w0.heap.size ≤ k
theorem Fr.refl (w : World) (v : Value) : Fr w w v v := ⟨World.grownBy.refl _ _, fun _ h => .inl h⟩
theorem Fr.step {w0 wr w1 : World} {v0 v : Value} {o : Obj} {g n cap : Nat} (h : Fr w0 wr v0 v) (hg : (wr.alloc o).grownBy w1 v.ownBlock) (hat : v.ownBlock = some g ∨ g = wr.heap.size + 1) :
    Fr w0 w1 v0 (.slice (some ⟨g, 0, none⟩) n cap) := by
  obtain ⟨h1, h2⟩ := h
  have hsz := h1.size
  have hs2 := hg.size
  rw [World.size_alloc] at hs2
  refine ⟨⟨hg.os.trans h1.os, hg.tape.trans h1.tape, hg.output.trans h1.output, by omega, fun k hk hne => ?_⟩, fun k hk => ?_⟩
  · rw [hg.block k (by rw [World.size_alloc]; omega) ?_, Below.heap_alloc wr o k (by omega)]
    · exact h1.block k hk hne
    · intro e
      rcases h2 k e.symm with h | h
      · exact hne h.symm
      · omega
  · simp only [Value.ownBlock, Option.some.injEq] at hk
    subst hk
    rcases hat with h | h
    · exact h2 g h
    · right; omega

theorem bd (s : ByteArray) (k : Nat) (h : k < s.size) : 0 ≤ (s[k].toNat : Int) ∧ (s[k].toNat : Int) ≤ 255 := by
  have := s[k].toNat_lt
  omega

theorem isL_one {c : Int} (h : isL c = true) : cls c = 1 := of_decide_eq_true h
theorem isL_not {c : Int} (h : isL c = false) : cls c ≠ 1 := of_decide_eq_false h
theorem sym_ways (c : Int) (j : Nat) (hc : cls c = 1) (hj : 1 ≤ j) :
    (j = 1 ∧ Hid (sym c j = 97)) ∨ (j = 2 ∧ c ≤ 90 ∧ Hid (sym c j = 66)) ∨ (j = 2 ∧ ¬ c ≤ 90 ∧ Hid (sym c j = 98)) ∨ (j = 3 ∧ Hid (sym c j = 99)) ∨ (j = 4 ∧ Hid (sym c j = 100)) ∨ (5 ≤ j ∧ Hid (sym c j = 100)) := by
  have hc' : (97 ≤ c ∧ c ≤ 122) ∨ (65 ≤ c ∧ c ≤ 90) := by
    unfold cls at hc
    split at hc
    · assumption
    · split at hc
      · omega
      · split at hc <;> omega
  unfold sym Hid
  rw [if_pos hc]
  by_cases h1 : j = 1
  · exact .inl ⟨h1, by rw [if_pos h1]⟩
  · rw [if_neg h1]
    by_cases h2 : j = 2
    · by_cases h3 : c ≤ 90
      · exact .inr (.inl ⟨h2, h3, by rw [if_pos ⟨h2, by omega, h3⟩]⟩)
      · exact .inr (.inr (.inl ⟨h2, h3, by rw [if_neg (by omega), if_pos h2]⟩))
    · rw [if_neg (by omega), if_neg h2]
      by_cases h4 : j = 3
      · exact .inr (.inr (.inr (.inl ⟨h4, by rw [if_pos h4]⟩)))
      · by_cases h5 : j = 4
        · exact .inr (.inr (.inr (.inr (.inl ⟨h5, by rw [if_neg h4]⟩))))
        · exact .inr (.inr (.inr (.inr (.inr ⟨by omega, by rw [if_neg h4]⟩))))

theorem isD_two {c : Int} (h : isD c = true) : cls c = 2 := of_decide_eq_true h
theorem isD_not {c : Int} (h : isD c = false) : cls c ≠ 2 := of_decide_eq_false h
def isS (c : Int) : Bool := c == 32
theorem isS_three {c : Int} (h : isS c = true) : cls c = 3 := by
  have : c = 32 := by simpa [isS] using h
  subst this; decide
theorem isS_not {c : Int} (h : isS c = false) : cls c ≠ 3 := by
  have hn : ¬ c = 32 := by simpa [isS] using h
  unfold cls
  by_cases a : (97 ≤ c ∧ c ≤ 122) ∨ (65 ≤ c ∧ c ≤ 90)
  · rw [if_pos a]; decide
  · rw [if_neg a]
    by_cases b : 48 ≤ c ∧ c ≤ 57
    · rw [if_pos b]; decide
    · rw [if_neg b, if_neg hn]; decide
theorem cls_zero {c : Int} (h1 : isL c = false) (h2 : isD c = false) (h3 : isS c = false) : cls c = 0 := by
  have a1 := isL_not h1
  have a2 := isD_not h2
  have hn : ¬ c = 32 := by simpa [isS] using h3
  unfold cls at a1 a2 ⊢
  by_cases a : (97 ≤ c ∧ c ≤ 122) ∨ (65 ≤ c ∧ c ≤ 90)
  · rw [if_pos a] at a1; exact absurd rfl a1
  · rw [if_neg a] at a2 ⊢
    by_cases b : 48 ≤ c ∧ c ≤ 57
    · rw [if_pos b] at a2; exact absurd rfl a2
    · rw [if_neg b, if_neg hn]
theorem symD_ways (c : Int) (j : Nat) (hc : cls c = 2) : (j ≤ 2 ∧ Hid (sym c j = 48)) ∨ (¬ j ≤ 2 ∧ Hid (sym c j = 57)) := by
  unfold sym Hid
  rw [if_neg (by rw [hc]; decide), if_pos hc]
  by_cases h : j ≤ 2
  · exact .inl ⟨h, if_pos h⟩
  · exact .inr ⟨h, if_neg h⟩
theorem symS (c : Int) (j : Nat) (hc : cls c = 3) : Hid (sym c j = 32) := by
  unfold sym Hid
  rw [if_neg (by rw [hc]; decide), if_neg (by rw [hc]; decide), if_pos hc]
theorem symO (c : Int) (hc : cls c = 0) : Hid (sym c 1 = c) := by
  unfold sym Hid
  rw [if_neg (by rw [hc]; decide), if_neg (by rw [hc]; decide), if_neg (by rw [hc]; decide)]

/-- Does the run go on behind j bytes? -/
theorem go_on (s : ByteArray) (k j : Nat) (p : Int → Bool) (q : Int) (hp : ∀ c, p c = true → cls c = q) (hpn : ∀ c, p c = false → cls c ≠ q) (hq : q ≠ 0) (hj : 1 ≤ j) (hj2 : k + j ≤ s.size)
    (hcl : ∃ c : Int, (nums s)[k + j - 1]? = some c ∧ cls c = q) (hrl : runLen ((nums s).drop k) + 1 = j + runLen ((nums s).drop (k + j - 1))) :
    (∃ h : k + j < s.size, p (s[k + j].toNat : Int) = true ∧ Hid (∃ c : Int, (nums s)[k + (j + 1) - 1]? = some c ∧ cls c = q) ∧ Hid (runLen ((nums s).drop k) + 1 = (j + 1) + runLen ((nums s).drop (k + (j + 1) - 1)))) ∨
    (∃ h : k + j < s.size, p (s[k + j].toNat : Int) = false ∧ Hid (runLen ((nums s).drop k) = j)) ∨
    (k + j = s.size ∧ Hid (runLen ((nums s).drop k) = j)) := by
  obtain ⟨c, hc, hcq⟩ := hcl
  by_cases hlt : k + j < s.size
  · have hd := nums_at s (k + j) hlt
    cases hb : p (s[k + j].toNat : Int) with
    | true =>
      have := hp _ hb
      exact .inl ⟨hlt, hb, ⟨_, by rw [show k + (j + 1) - 1 = k + j from by omega]; exact hd, this⟩, run_more _ k j c _ hj hc hd (by rw [hcq]; exact hq) (by rw [this, hcq]) hrl⟩
    | false =>
      exact .inr (.inl ⟨hlt, hb, run_done _ k j c _ hj hc hd (by rw [hcq]; exact hpn _ hb) hrl⟩)
  · exact .inr (.inr ⟨by omega, run_end _ k j hj (by rw [nums_length]; omega) hrl⟩)

/-- What a round's append leaves of the loop's relation. -/
theorem rel_round {s : ByteArray} {k j n B g cap : Nat} {c y : Int} {pre : List Int} {xs : List Value} {w wr w1 : World} {v a : Value} {o : Obj}
    (HC : Hid ((nums s)[k]? = some c)) (HS : Hid (sym c j = y)) (HR : Hid (runLen ((nums s).drop k) = j)) (HSH : Hid (pre ++ sh 0 ((nums s).drop k) = sh 0 (nums s))) (hj : 1 ≤ j) (hpl : pre.length ≤ k)
    (hown : w1.ownsRow B 5 1 (.slice (some ⟨g, 0, none⟩) (n + pre.length + 1) cap) (n + pre.length + 1) (xs ++ pre.map (Value.int .u8) ++ [.int .u8 y]))
    (hgrow : (wr.alloc o).grownBy w1 a.ownBlock) (hat : a.ownBlock = some g ∨ g = wr.heap.size + 1) (hfr : Fr w wr v a) :
    (pre ++ [y]).length ≤ k + j ∧ w1.ownsRow B 5 1 (.slice (some ⟨g, 0, none⟩) (n + pre.length + 1) cap) (n + (pre ++ [y]).length) (xs ++ (pre ++ [y]).map (Value.int .u8)) ∧
      Fr w w1 v (.slice (some ⟨g, 0, none⟩) (n + pre.length + 1) cap) ∧ (pre ++ [y]) ++ sh 0 ((nums s).drop (k + j)) = sh 0 (nums s) := by
  refine ⟨by simp; omega, ?_, hfr.step hgrow hat, ?_⟩
  · have e1 : n + (pre ++ [y]).length = n + pre.length + 1 := by simp; omega
    have e2 : xs ++ (pre ++ [y]).map (Value.int .u8) = xs ++ pre.map (Value.int .u8) ++ [.int .u8 y] := by simp
    rw [e1, e2]
    exact hown
  · have := round_of (nums s) pre k j c HC.out HR.out HSH.out
    rw [HS.out] at this
    exact this

set_option maxHeartbeats 3200000 in
set_option maxRecDepth 100000 in
theorem shapeOf_any (v : Value) (n : Nat) (xs : List Value) (s : ByteArray) (B : Nat) (w : World) (hown0 : w.ownsRow B 5 1 v n xs) (hB : B ≤ w.heap.size) (hn : n ≤ 65536) (hs : s.size ≤ 65536) :
    Calls Try.prog 20 #[v, .string s] w fun e w' => ∃ v', e = .returned v' ∧ w'.ownsRow B 5 1 v' (n + (sh 0 (nums s)).length) (xs ++ (sh 0 (nums s)).map (Value.int .u8)) ∧ w.grownBy w' v.ownBlock := by
  obtain ⟨i0, hi, hz0, hz1, hz2⟩ := info_parts info5
  have hnl := nums_length s
  have HNL := Hid.of hnl
  clear hnl
  go_enter Try.func20, Try.ntmps20
  go_wp2
  go_loopw [0, 5] (fun a i wr => ∃ (k : Nat) (pre : List Int), k ≤ s.size ∧ i = .int .i64 k ∧ pre.length ≤ k ∧ wr.ownsRow B 5 1 a (n + pre.length) (xs ++ pre.map (Value.int .u8)) ∧ Fr w wr v a ∧ pre ++ sh 0 ((nums s).drop k) = sh 0 (nums s)) (fun _ i _ => s.size - (intOf i).toNat)
  case atStart => exact ⟨0, [], Nat.zero_le _, rfl, Nat.le_refl _, by simpa using hown0, Fr.refl _ _, rfl⟩
  case round =>
    obtain ⟨k, pre, hk, rfl, hpl, hown, hfr, hsh⟩ := hrel
    have HSH := Hid.of hsh
    clear hsh hown0
    have hBr : B ≤ wr.heap.size := Nat.le_trans hB hfr.1.size
    by_cases hlt : k < s.size
    · have hc0 := bd s k hlt
      have HC := Hid.of (nums_at s k hlt)
      by_cases h1 : isL (s[k].toNat : Int) = true
      · go_wp2_with (first | (go_at_call 21; refine (isLetter_any _ _ (by omega) (by omega)).mono ?_; rintro e w' ⟨rfl, hw⟩; subst hw))
        go_loop [7] (fun m => ∃ j : Nat, 1 ≤ j ∧ k + j ≤ s.size ∧ m = .int .i64 j ∧ (∃ c : Int, (nums s)[k + j - 1]? = some c ∧ cls c = 1) ∧ runLen ((nums s).drop k) + 1 = j + runLen ((nums s).drop (k + j - 1))) (fun m => s.size - (intOf m).toNat)
        case atStart => exact ⟨1, Nat.le_refl _, by omega, rfl, ⟨_, HC.out, of_decide_eq_true h1⟩, by rw [Nat.add_sub_cancel]; omega⟩
        case round =>
          obtain ⟨j, hj1, hj2, rfl, hcl, hrl⟩ := hrel
          rcases go_on s k j isL 1 (fun _ => isL_one) (fun _ => isL_not) (by decide) hj1 hj2 hcl hrl with ⟨hlt2, h2, HX, HY⟩ | hexit
          · clear hcl hrl
            have hc1 := bd s (k + j) hlt2
            go_wp2_with (first | (go_at_call 21; refine (isLetter_any _ _ (by omega) (by omega)).mono ?_; rintro e w' ⟨rfl, hw⟩; subst hw))
            go_round
            case rel => exact ⟨j + 1, by omega, by omega, by go_num, HX.out, HY.out⟩
            case measure => simp [intOf]; omega
          · clear hcl hrl
            rcases sym_ways (s[k].toNat : Int) j (isL_one h1) hj1 with ⟨rfl, HS⟩ | ⟨rfl, h3, HS⟩ | ⟨rfl, h3, HS⟩ | ⟨rfl, HS⟩ | ⟨rfl, HS⟩ | ⟨h3, HS⟩
            all_goals rcases hexit with ⟨hlt2, h2, HR⟩ | ⟨heq, HR⟩
            all_goals
              try have hc1 := bd s (k + _) hlt2
            all_goals
              go_wp2_with (first | (go_at_call 21; refine (isLetter_any _ _ (by omega) (by omega)).mono ?_; rintro e w' ⟨rfl, hw⟩; subst hw) | (at_builtin; refine wpList_append_lies _ rfl _ _ 26 rfl B 5 i0 (.int .u8 0) 1 1 Try.underlying26 hi hz0 hz1 hz2 rfl (by decide) _ _ _ rfl (hown.alloc _) ⟨_, 0, none⟩ 1 1 [_] rfl rfl (cell_one_new _ _ _) (by intro u hu; simp at hu; subst hu; rfl) (by decide) (by unfold maxLen; omega) (by omega) (by rw [World.size_alloc]; omega) _ (World.size_alloc _ _) ?_; intro g cap w1 hown1 hgrow1 hat hgl))
            all_goals
              have R := rel_round HC HS HR HSH (by omega) hpl hown1 hgrow1 hat hfr
              go_roundw
              case rel => exact ⟨k + _, pre ++ [_], by omega, by go_num, R.1, R.2.1, R.2.2.1, R.2.2.2⟩
              case measure => simp [intOf]; omega
      · have h1' : isL (s[k].toNat : Int) = false := by simpa using h1
        clear h1
        by_cases hd1 : isD (s[k].toNat : Int) = true
        · go_wp2_with (first | (go_at_call 21; refine (isLetter_any _ _ (by omega) (by omega)).mono ?_; rintro e w' ⟨rfl, hw⟩; subst hw) | (go_at_call 22; refine (isDigit_any _ _).mono ?_; rintro e w' ⟨rfl, hw⟩; subst hw))
          go_loop [7] (fun m => ∃ j : Nat, 1 ≤ j ∧ k + j ≤ s.size ∧ m = .int .i64 j ∧ (∃ c : Int, (nums s)[k + j - 1]? = some c ∧ cls c = 2) ∧ runLen ((nums s).drop k) + 1 = j + runLen ((nums s).drop (k + j - 1))) (fun m => s.size - (intOf m).toNat)
          case atStart => exact ⟨1, Nat.le_refl _, by omega, rfl, ⟨_, HC.out, isD_two hd1⟩, by rw [Nat.add_sub_cancel]; omega⟩
          case round =>
            obtain ⟨j, hj1, hj2, rfl, hcl, hrl⟩ := hrel
            rcases go_on s k j isD 2 (fun _ => isD_two) (fun _ => isD_not) (by decide) hj1 hj2 hcl hrl with ⟨hlt2, h2, HX, HY⟩ | hexit
            · clear hcl hrl
              go_wp2_with (first | (go_at_call 22; refine (isDigit_any _ _).mono ?_; rintro e w' ⟨rfl, hw⟩; subst hw))
              go_round
              case rel => exact ⟨j + 1, by omega, by omega, by go_num, HX.out, HY.out⟩
              case measure => simp [intOf]; omega
            · clear hcl hrl
              rcases symD_ways (s[k].toNat : Int) j (isD_two hd1) with ⟨h3, HS⟩ | ⟨h3, HS⟩
              all_goals rcases hexit with ⟨hlt2, h2, HR⟩ | ⟨heq, HR⟩
              all_goals
                go_wp2_with (first | (go_at_call 22; refine (isDigit_any _ _).mono ?_; rintro e w' ⟨rfl, hw⟩; subst hw) | (at_builtin; refine wpList_append_lies _ rfl _ _ 26 rfl B 5 i0 (.int .u8 0) 1 1 Try.underlying26 hi hz0 hz1 hz2 rfl (by decide) _ _ _ rfl (hown.alloc _) ⟨_, 0, none⟩ 1 1 [_] rfl rfl (cell_one_new _ _ _) (by intro u hu; simp at hu; subst hu; rfl) (by decide) (by unfold maxLen; omega) (by omega) (by rw [World.size_alloc]; omega) _ (World.size_alloc _ _) ?_; intro g cap w1 hown1 hgrow1 hat hgl))
              all_goals
                have R := rel_round HC HS HR HSH (by omega) hpl hown1 hgrow1 hat hfr
                go_roundw
                case rel => exact ⟨k + _, pre ++ [_], by omega, by go_num, R.1, R.2.1, R.2.2.1, R.2.2.2⟩
                case measure => simp [intOf]; omega

        · have hd1' : isD (s[k].toNat : Int) = false := by simpa using hd1
          clear hd1
          by_cases hs1 : ((s[k].toNat : Int) == 32) = true
          · go_wp2_with (first | (go_at_call 21; refine (isLetter_any _ _ (by omega) (by omega)).mono ?_; rintro e w' ⟨rfl, hw⟩; subst hw) | (go_at_call 22; refine (isDigit_any _ _).mono ?_; rintro e w' ⟨rfl, hw⟩; subst hw))
            go_loop [7] (fun m => ∃ j : Nat, 1 ≤ j ∧ k + j ≤ s.size ∧ m = .int .i64 j ∧ (∃ c : Int, (nums s)[k + j - 1]? = some c ∧ cls c = 3) ∧ runLen ((nums s).drop k) + 1 = j + runLen ((nums s).drop (k + j - 1))) (fun m => s.size - (intOf m).toNat)
            case atStart => exact ⟨1, Nat.le_refl _, by omega, rfl, ⟨_, HC.out, isS_three hs1⟩, by rw [Nat.add_sub_cancel]; omega⟩
            case round =>
              obtain ⟨j, hj1, hj2, rfl, hcl, hrl⟩ := hrel
              have HS := symS (s[k].toNat : Int) j (isS_three hs1)
              rcases go_on s k j isS 3 (fun _ => isS_three) (fun _ => isS_not) (by decide) hj1 hj2 hcl hrl with ⟨hlt2, h2, HX, HY⟩ | ⟨hlt2, h2, HR⟩ | ⟨heq, HR⟩
              · clear hcl hrl HS
                have h2' : ((s[k + j].toNat : Int) == 32) = true := h2
                clear h2
                go_wp2
                go_round
                case rel => exact ⟨j + 1, by omega, by omega, by go_num, HX.out, HY.out⟩
                case measure => simp [intOf]; omega
              · clear hcl hrl
                have h2' : ((s[k + j].toNat : Int) == 32) = false := h2
                clear h2
                go_wp2_with (first | (at_builtin; refine wpList_append_lies _ rfl _ _ 26 rfl B 5 i0 (.int .u8 0) 1 1 Try.underlying26 hi hz0 hz1 hz2 rfl (by decide) _ _ _ rfl (hown.alloc _) ⟨_, 0, none⟩ 1 1 [_] rfl rfl (cell_one_new _ _ _) (by intro u hu; simp at hu; subst hu; rfl) (by decide) (by unfold maxLen; omega) (by omega) (by rw [World.size_alloc]; omega) _ (World.size_alloc _ _) ?_; intro g cap w1 hown1 hgrow1 hat hgl))
                have R := rel_round HC HS HR HSH (by omega) hpl hown1 hgrow1 hat hfr
                go_roundw
                case rel => exact ⟨k + _, pre ++ [_], by omega, by go_num, R.1, R.2.1, R.2.2.1, R.2.2.2⟩
                case measure => simp [intOf]; omega
              · clear hcl hrl
                go_wp2_with (first | (at_builtin; refine wpList_append_lies _ rfl _ _ 26 rfl B 5 i0 (.int .u8 0) 1 1 Try.underlying26 hi hz0 hz1 hz2 rfl (by decide) _ _ _ rfl (hown.alloc _) ⟨_, 0, none⟩ 1 1 [_] rfl rfl (cell_one_new _ _ _) (by intro u hu; simp at hu; subst hu; rfl) (by decide) (by unfold maxLen; omega) (by omega) (by rw [World.size_alloc]; omega) _ (World.size_alloc _ _) ?_; intro g cap w1 hown1 hgrow1 hat hgl))
                have R := rel_round HC HS HR HSH (by omega) hpl hown1 hgrow1 hat hfr
                go_roundw
                case rel => exact ⟨k + _, pre ++ [_], by omega, by go_num, R.1, R.2.1, R.2.2.1, R.2.2.2⟩
                case measure => simp [intOf]; omega
          · have hs1' : ((s[k].toNat : Int) == 32) = false := by simpa using hs1
            clear hs1
            have hz := cls_zero h1' hd1' hs1'
            have HS := symO _ hz
            have HR := Hid.of (run_other (nums s) k _ HC.out hz)
            clear hz
            go_wp2_with (first | (go_at_call 21; refine (isLetter_any _ _ (by omega) (by omega)).mono ?_; rintro e w' ⟨rfl, hw⟩; subst hw) | (go_at_call 22; refine (isDigit_any _ _).mono ?_; rintro e w' ⟨rfl, hw⟩; subst hw) | (at_builtin; refine wpList_append_lies _ rfl _ _ 26 rfl B 5 i0 (.int .u8 0) 1 1 Try.underlying26 hi hz0 hz1 hz2 rfl (by decide) _ _ _ rfl (hown.alloc _) ⟨_, 0, none⟩ 1 1 [_] rfl rfl (cell_one_new _ _ _) (by intro u hu; simp at hu; subst hu; rfl) (by decide) (by unfold maxLen; omega) (by omega) (by rw [World.size_alloc]; omega) _ (World.size_alloc _ _) ?_; intro g cap w1 hown1 hgrow1 hat hgl))
            have R := rel_round HC HS HR HSH (by omega) hpl hown1 hgrow1 hat hfr
            go_roundw
            case rel => exact ⟨k + _, pre ++ [_], by omega, by go_num, R.1, R.2.1, R.2.2.1, R.2.2.2⟩
            case measure => simp [intOf]; omega
    · have e : (nums s).drop k = [] := by rw [List.drop_eq_nil_iff, HNL.out]; omega
      have HE : Hid (pre = sh 0 (nums s)) := Hid.of (by have h := HSH.out; rw [e] at h; simpa [sh] using h)
      clear e
      go_wp2
      go_ret
      refine ⟨_, rfl, ?_, hfr.1⟩
      rw [← HE.out]
      exact hown

theorem zzshape_any (v : Value) (n : Nat) (xs : List Value) (s : ByteArray) (B : Nat) (w : World) (hown0 : w.ownsRow B 5 1 v n xs) (hB : B ≤ w.heap.size) (hn : n ≤ 65536) (hs : s.size ≤ 65536) :
    Calls Try.prog 13 #[v, .string s] w fun e w' => ∃ v', e = .returned v' ∧ w'.ownsRow B 5 1 v' (n + (sh 0 (nums s)).length) (xs ++ (sh 0 (nums s)).map (Value.int .u8)) ∧ w.grownBy w' v.ownBlock := by
  go_enter Try.func13, Try.ntmps13
  go_wp2_with (first | (go_at_call 20; refine (shapeOf_any v n xs s B _ hown0 hB hn hs).mono ?_; rintro e w1 ⟨v', rfl, hown1, hg1⟩))
  go_ret
  exact ⟨v', rfl, hown1, hg1⟩
end Go.Proofs.Qxb6601384a.Sh
