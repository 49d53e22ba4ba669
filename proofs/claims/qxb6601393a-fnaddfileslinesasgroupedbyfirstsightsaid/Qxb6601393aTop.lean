/- The top function: the walk. -/
import Derived.Test.Qxb6601393aTop0
namespace Go.Proofs.Qxb6601393a.Smp
open Go.RowKit

set_option maxHeartbeats 6400000 in
set_option maxRecDepth 100000 in
theorem top_any (w : World) (a : Option Addr) (cap : Nat) (ps : Steps) (hc : Src w a ps) (hla : Lies a ps.length cap) (hn : ps.length ≤ 4096) :
    Calls Try.prog 3 #[.slice a ps.length cap] w fun e w' => e = .returned (.bool true) ∧ Below w.heap.size w w' := by
  have HC := Hid.of hc
  have HLA := Hid.of hla
  obtain ⟨n, HN⟩ : ∃ n, Hid (ps.length = n) := ⟨_, rfl⟩
  have hby := Hid.of (bytes_any w a cap ps hc (by unfold maxLen; omega))
  have hcop : Hid (∀ wr, Below w.heap.size w wr → Calls Try.prog 6 #[.slice a ps.length cap] wr fun e w' => ∃ ca cc, e = .returned (.slice ca ps.length cc) ∧ Cp w' w'.heap.size ca ps ∧ Below wr.heap.size wr w') := fun wr hb => copy_both wr a cap ps hla (hc.below hb) hn
  have hfst : Hid (∀ wr ca cc, Cp wr wr.heap.size ca ps → Calls Try.prog 7 #[.slice ca ps.length cc] wr fun e w' => e = .returned (.slice (some ⟨wr.heap.size, 0, none⟩) ps.length ps.length) ∧ Row w' wr.heap.size ps.length (firstOf ps) ps.length ∧ Below wr.heap.size wr w') := fun wr ca cc h => first_any wr ca cc ps h hn
  have hseen : Hid (∀ wr ca cc i, Cp wr wr.heap.size ca ps → i < ps.length → Calls Try.prog 12 #[.slice ca ps.length cc, .int .i64 (i : Nat)] wr fun e w' => e = .returned (.bool (seen ps i)) ∧ Below wr.heap.size wr w') := fun wr ca cc i h hi => seen_any wr ca cc ps i h hi hn
  have HSZ : Hid (∀ i, i < ps.length → (pth ps i).size ≤ maxLen) := fun i hi => by obtain ⟨_, _, _, _, _, _, h, _⟩ := hc i hi; exact h
  rw [HN.out] at HSZ
  rw [HN.out] at hn hby hcop hfst hseen ⊢
  clear hc hla
  obtain ⟨i3, hi3, hy0, hy1, hy2⟩ := info_parts info3
  go_enter Try.func3, Try.ntmps3
  go_wp2_with (first | (go_at_call 5; refine hby.out.mono ?_; rintro e w1 ⟨⟨v, rfl⟩, hb1⟩; cases v))
  · go_ret
    exact ⟨rfl, hb1⟩
  · clear hby
    go_loopw [3, 4] (fun z i wr => ∃ q zz : Nat, q ≤ n ∧ zz ≤ 1048576 ∧ z = .int .i64 zz ∧ i = .int .i64 q ∧ Below w.heap.size w wr) (fun _ i _ => n - (intOf i).toNat)
    case atStart => exact ⟨0, 0, Nat.zero_le _, by omega, rfl, rfl, hb1⟩
    case round =>
      clear hb1
      obtain ⟨q, z, hq, hz, rfl, rfl, hb⟩ := hrel
      by_cases hlt : q < n
      · obtain ⟨b, o, hbl, rfl, ci, di, hl1, hl2⟩ := HC.out q (by rw [HN.out]; exact hlt)
        obtain ⟨s, HS⟩ : ∃ s, Hid (pth ps q = s) := ⟨_, rfl⟩
        obtain ⟨t, HT⟩ : ∃ t, Hid (acp ps q = t) := ⟨_, rfl⟩
        rw [HS.out] at ci hl1
        rw [HT.out] at di hl2
        have ei := (hb.cell (p := ⟨b, o + q * 2, none⟩) hbl).trans ci
        have ei' := (hb.cell (p := ⟨b, o + q * 2 + 1, none⟩) hbl).trans di
        clear ci di
        unfold maxLen at hl1 hl2
        by_cases p1 : s.size ≤ 1048576
        · have g1 : decide ((1048576 : Int) < (s.size : Int)) = false := by simp; omega
          by_cases p2 : t.size ≤ 1048576
          · have g2 : decide ((1048576 : Int) < (t.size : Int)) = false := by simp; omega
            by_cases p3 : z + (32 + s.size + t.size) ≤ 1048576
            · go_wp2
              go_quiet (fail)
              go_wp2
              go_roundw
              case rel => exact ⟨q + 1, z + (32 + s.size + t.size), by omega, p3, by go_num, by go_num, hb.trans ⟨rfl, rfl, rfl, Nat.le_refl _, fun _ _ => rfl⟩⟩
              case measure => simp [intOf]; omega
            · go_wp2
              go_quiet (fail)
              go_wp2
              go_ret
              exact ⟨rfl, hb.trans ⟨rfl, rfl, rfl, Nat.le_refl _, fun _ _ => rfl⟩⟩
          · have g2 : decide ((1048576 : Int) < (t.size : Int)) = true := by simp; omega
            go_wp2
            try go_quiet (fail)
            try go_wp2
            go_ret
            first | exact ⟨rfl, hb⟩ | exact ⟨rfl, hb.trans ⟨rfl, rfl, rfl, Nat.le_refl _, fun _ _ => rfl⟩⟩
        · have g1 : decide ((1048576 : Int) < (s.size : Int)) = true := by simp; omega
          go_wp2
          try go_quiet (fail)
          try go_wp2
          go_ret
          first | exact ⟨rfl, hb⟩ | exact ⟨rfl, hb.trans ⟨rfl, rfl, rfl, Nat.le_refl _, fun _ _ => rfl⟩⟩
      · go_wp2_with (first | (go_at_call 6; refine (hcop.out _ hb).mono ?_; rintro e w2 ⟨ca, cc, rfl, hcp, hb2⟩) | (go_at_call 7; refine (hfst.out _ _ _ hcp).mono ?_; rintro e w3 ⟨rfl, hfr, hb3⟩) | (at_make; refine wpList_make_full _ rfl _ _ 27 rfl _ 3 i3 (.int .i64 0) 1 Try.underlying27 hi3 hy0 hy1 .i64 .i64 _ _ n rfl rfl rfl rfl (by rw [hy2]; omega) (by unfold maxLen; omega) (Nat.le_refl _) ?_; intro w4 hown4 hgrow4; have E0 := env_start (hb.trans (hb2.mono hb.size)) hcp hb3 hfr (made_below hgrow4) (Row.start (rankOf ps) hown4); clear hown4 hgrow4))
        have hfl := hfr.lt
        clear hcp hfr hb3 hb2 hb hcop hfst HC HLA
        obtain ⟨fb, HFB⟩ : ∃ fb, Hid (w2.heap.size = fb) := ⟨_, rfl⟩
        obtain ⟨kb, HKB⟩ : ∃ kb, Hid (w3.heap.size = kb) := ⟨_, rfl⟩
        rw [HFB.out, HKB.out] at E0
        rw [HFB.out, HKB.out]
        rw [HFB.out, HKB.out] at hfl
        clear HFB HKB
        go_loopw [8, 9] (fun c i wr => ∃ q : Nat, q ≤ n ∧ c = .int .i64 (cnt ps q : Nat) ∧ i = .int .i64 q ∧ Env w wr (kb + 1) ca fb kb n ps q) (fun _ i _ => n - (intOf i).toNat)
        case atStart => exact ⟨0, Nat.zero_le _, rfl, rfl, E0⟩
        case round =>
          clear E0
          obtain ⟨q, hq, rfl, rfl, E⟩ := hrel
          by_cases hlt : q < n
          · have cf := E.fr.cell q hlt hlt
            obtain ⟨x, hx⟩ := E.rk.any q hlt
            have hfz := E.rk.free q
            have hcq := cnt_le ps q
            by_cases hf : firstOf ps q = q
            · rw [hf] at cf
              have HF := Hid.of hf
              clear hf
              obtain ⟨k, HK⟩ : ∃ k, Hid (cnt ps q = k) := ⟨_, rfl⟩
              rw [HK.out] at hcq ⊢
              go_wp2
              go_roundw
              case rel => exact ⟨q + 1, by omega, by rw [cnt_yes HF.out, HK.out]; go_num, by go_num, E.put hlt ((rank_yes HF.out).trans HK.out)⟩
              case measure => simp [intOf]; omega
            · have HF := Hid.of hf
              have hne : ((firstOf ps q : Int) == (q : Int)) = false := by simp; omega
              clear hf
              go_wp2
              go_roundw
              case rel => exact ⟨q + 1, by omega, by rw [cnt_no HF.out], by go_num, E.pass (rank_no HF.out)⟩
              case measure => simp [intOf]; omega
          · obtain rfl : q = n := by omega
            go_wp2_with (first | (go_at_call 8; refine (new_any _).mono ?_; rintro e w5 ⟨sb, mb, rfl, S0, hb5⟩))
            have hBk : kb + 1 ≤ wr.heap.size := E.top
            have E1 := E.below hb5 hBk
            clear E hb5
            obtain ⟨B, HB⟩ : ∃ B, Hid (wr.heap.size = B) := ⟨_, rfl⟩
            rw [HB.out] at S0 hBk
            have S1 : SampE w5 B sb mb ps 0 := S0
            clear S0 HB
            go_loopw [11] (fun i wr => ∃ j : Nat, j ≤ q ∧ i = .int .i64 j ∧ Env w wr (kb + 1) ca fb kb q ps q ∧ SampE wr B sb mb ps j) (fun i _ => q - (intOf i).toNat)
            case atStart => exact ⟨0, Nat.zero_le _, rfl, E1, S1⟩
            case round =>
              clear E1 S1
              obtain ⟨j, hj, rfl, E, S⟩ := hrel
              by_cases hlt : j < q
              · obtain ⟨g, hg, hga, c0, c1⟩ := E.cp j (by rw [HN.out]; exact hlt)
                have hd : Below wr.heap.size wr wr.drew := (Below.refl _ _).drew
                have hadd := Hid.of ((S.below hd).add (by omega) (HSZ.out j hlt))
                have E' := E.below hd E.top
                clear E S hd
                subst hga
                go_wp2
                go_region_with (go_at_call 9; refine hadd.out.mono ?_; rintro e w6 ⟨rfl, S6, hb6⟩)
                all_goals
                  go_wp2
                  go_roundw
                  case rel => exact ⟨j + 1, by omega, by go_num, E'.below hb6 hBk, S6⟩
                  case measure => simp [intOf]; omega
              · obtain rfl : j = q := by omega
                have HCT := Hid.of S.count
                go_wp2_with (first | (go_at_call 10; refine HCT.out.mono ?_; rintro e w7 ⟨rfl, hw⟩; subst hw))
                clear HCT
                go_loopw [12] (fun x wr => ∃ i : Nat, i ≤ j ∧ x = .int .i64 i ∧ Env w wr (kb + 1) ca fb kb j ps j ∧ SampE wr B sb mb ps j) (fun x _ => j - (intOf x).toNat)
                case atStart => exact ⟨0, Nat.zero_le _, rfl, E, S⟩
                case round =>
                  clear E S
                  obtain ⟨i, hi, rfl, E, S⟩ := hrel
                  by_cases hlt : i < j
                  · have cf := E.fr.cell i hlt hlt
                    by_cases hf : firstOf ps i = i
                    · rw [hf] at cf
                      have ck := E.rk.cell i hlt hlt
                      rw [rank_yes hf] at ck
                      have HR := Hid.of (S.res' hn hlt hf)
                      have HF := Hid.of (rank_yes hf)
                      have ht := num_le (tagP ps i) j
                      obtain ⟨t, HTN⟩ : ∃ t, Hid (num (tagP ps i) j = t) := ⟨_, rfl⟩
                      rw [HTN.out] at HR ht
                      clear hf
                      obtain ⟨g, hg, hga, c0, c1⟩ := E.cp i (by rw [HN.out]; exact hlt)
                      have hgl : g < wr.heap.size := by have := E.top; omega
                      subst hga
                      clear c0
                      go_wp2_with (first | (go_at_call 11; refine HR.out.mono ?_; rintro e w8 ⟨rfl, R8, hb8⟩; have E8 := E.below hb8 E.top; have S8 := S.below hb8; have k8 := E8.rk.cell i hlt hlt; rw [HF.out] at k8; have c8 := (hb8.cell (p := ⟨g, i * 2 + 1, none⟩) hgl).trans c1))
                      clear cf ck c1 k8 c8
                      go_loop [16, 17] (fun m y => ∃ jj : Nat, i ≤ jj ∧ jj ≤ j ∧ m = .int .i64 (num (tagP ps i) jj : Nat) ∧ y = .int .i64 jj) (fun _ y => j - (intOf y).toNat)
                      case atStart => exact ⟨i, Nat.le_refl _, hi, by rw [tag_zero]; rfl, rfl⟩
                      case round =>
                        obtain ⟨jj, h1, h2, rfl, rfl⟩ := hrel
                        by_cases hl2 : jj < j
                        · have cf2 := E8.fr.cell jj hl2 hl2
                          by_cases hf2 : firstOf ps jj = i
                          · rw [hf2] at cf2
                            obtain ⟨ta, tb⟩ := tag_at' hl2 hf2
                            rw [HTN.out] at ta
                            have ct := R8.cell (num (tagP ps i) jj) ta ta
                            rw [tb] at ct
                            have HY := Hid.of (tag_yes hf2)
                            obtain ⟨m, HM⟩ : ∃ m, Hid (num (tagP ps i) jj = m) := ⟨_, rfl⟩
                            rw [HM.out] at ta ct HY
                            rw [HM.out]
                            have g1 : decide ((t : Int) ≤ (m : Int)) = false := by simp; omega
                            clear tb hf2
                            go_wp2
                            go_round
                            case rel => exact ⟨jj + 1, by omega, by omega, by rw [HY.out]; go_num, by go_num⟩
                            case measure => simp [intOf]; omega
                          · have HY := Hid.of (tag_no hf2)
                            have hne : ((firstOf ps jj : Int) == (i : Int)) = false := by simp; omega
                            clear hf2
                            go_wp2
                            go_round
                            case rel => exact ⟨jj + 1, by omega, by omega, by rw [HY.out], by go_num⟩
                            case measure => simp [intOf]; omega
                        · obtain rfl : jj = j := by omega
                          rw [HTN.out]
                          go_wp2
                          go_roundw
                          case rel => exact ⟨i + 1, by omega, by go_num, E8, S8⟩
                          case measure => simp [intOf]; omega
                    · have hne : ((firstOf ps i : Int) != (i : Int)) = true := by simp; omega
                      clear hf
                      go_wp2
                      go_roundw
                      case rel => exact ⟨i + 1, by omega, by go_num, E, S⟩
                      case measure => simp [intOf]; omega
                  · obtain rfl : i = j := by omega
                    go_wp2
                    go_loopw [18, 19] (fun p x wr => ∃ k : Nat, k ≤ i ∧ p = .int .i64 (num (newP ps) k : Nat) ∧ x = .int .i64 k ∧ Env w wr (kb + 1) ca fb kb i ps i ∧ SampE wr B sb mb ps i) (fun _ x _ => i - (intOf x).toNat)
                    case atStart => exact ⟨0, Nat.zero_le _, rfl, rfl, E, S⟩
                    case round =>
                      clear E S
                      obtain ⟨k, hk, rfl, rfl, E, S⟩ := hrel
                      have hpl := num_le (newP ps) k
                      by_cases hlt : k < i
                      · have HSE := Hid.of (hseen.out wr ca cc k (E.cp.mono E.top) hlt)
                        by_cases hs : seen ps k = true
                        · rw [hs] at HSE
                          have HNW := Hid.of (new_no hs)
                          clear hs
                          go_wp2_with (first | (go_at_call 12; refine HSE.out.mono ?_; rintro e w7 ⟨rfl, hb7⟩))
                          go_roundw
                          case rel => exact ⟨k + 1, by omega, by rw [HNW.out], by go_num, E.below hb7 E.top, S.below hb7⟩
                          case measure => simp [intOf]; omega
                        · have hs' : seen ps k = false := by simpa using hs
                          rw [hs'] at HSE
                          have HNW := Hid.of (new_yes hs')
                          have HZ := Hid.of (pl_zero hs')
                          clear hs hs'
                          have HP : Hid (∀ W, Below wr.heap.size wr W → Calls Try.prog 13 #[ptr sb, .string (pth ps k)] W fun e w' => e = .returned (.slice (some ⟨W.heap.size, 0, none⟩) (num (plP ps k) i) (num (plP ps k) i)) ∧ Row w' W.heap.size (num (plP ps k) i) (plF ps i k) (num (plP ps k) i) ∧ Below W.heap.size W w') := fun W hW => (S.below hW).places' hn (HSZ.out k hlt)
                          have ht := num_le (plP ps k) i
                          obtain ⟨t, HTN⟩ : ∃ t, Hid (num (plP ps k) i = t) := ⟨_, rfl⟩
                          rw [HTN.out] at HP ht
                          obtain ⟨pc, HPC⟩ : ∃ pc, Hid (num (newP ps) k = pc) := ⟨_, rfl⟩
                          rw [HPC.out] at HNW hpl
                          rw [HPC.out]
                          obtain ⟨g, hg, hga, c0, c1⟩ := E.cp k (by rw [HN.out]; exact hlt)
                          have hgl : g < wr.heap.size := by have := E.top; omega
                          subst hga
                          clear c1
                          go_wp2_with (first | (go_at_call 12; refine HSE.out.mono ?_; rintro e w7 ⟨rfl, hb7⟩; have c7 := (hb7.cell (p := ⟨g, k * 2, none⟩) hgl).trans c0) | (go_at_call 13; refine (HP.out _ hb7).mono ?_; rintro e w8 ⟨rfl, R8, hb8⟩))
                          have E8 := (E.below hb7 E.top).below hb8 (Nat.le_trans E.top hb7.size)
                          have S8 := (S.below hb7).below hb8
                          clear c0 c7 HP HSE E S hb7
                          go_loopw [21, 22] (fun m y wr => ∃ jj : Nat, k ≤ jj ∧ jj ≤ i ∧ m = .int .i64 (num (plP ps k) jj : Nat) ∧ y = .int .i64 jj ∧ Below w8.heap.size w8 wr) (fun _ y _ => i - (intOf y).toNat)
                          case atStart => exact ⟨k, Nat.le_refl _, hk, by rw [HZ.out]; rfl, rfl, Below.refl _ _⟩
                          case round =>
                            obtain ⟨jj, h1, h2, rfl, rfl, hb9⟩ := hrel
                            have E9 := E8.below hb9 E8.top
                            by_cases hl2 : jj < i
                            · have cf2 := E9.fr.cell jj hl2 hl2
                              by_cases hf2 : firstOf ps jj = jj
                              · rw [hf2] at cf2
                                obtain ⟨g1, _, hg1, a0, _⟩ := E9.cp jj (by rw [HN.out]; exact hl2)
                                obtain ⟨g2, _, hg2, b0, _⟩ := E9.cp k (by rw [HN.out]; exact hlt)
                                obtain rfl : g = g1 := by simpa using hg1
                                obtain rfl : g = g2 := by simpa using hg2
                                clear hg1 hg2
                                by_cases hs : ((pth ps jj).toList == (pth ps k).toList) = true
                                · obtain ⟨ta, tb⟩ := pl_at' hl2 hf2 hs
                                  rw [HTN.out] at ta
                                  have ct := (R8.below hb9 R8.lt).cell (num (plP ps k) jj) ta ta
                                  rw [tb] at ct
                                  have ck := E9.rk.cell jj hl2 hl2
                                  rw [rank_yes hf2] at ck
                                  have HY := Hid.of (pl_yes hf2 hs)
                                  obtain ⟨m, HM⟩ : ∃ m, Hid (num (plP ps k) jj = m) := ⟨_, rfl⟩
                                  rw [HM.out] at ta ct HY
                                  rw [HM.out]
                                  have gg : decide ((t : Int) ≤ (m : Int)) = false := by simp; omega
                                  clear tb hf2
                                  go_wp2
                                  go_quiet (fail)
                                  go_wp2
                                  go_quiet (fail)
                                  go_wp2
                                  go_roundw
                                  case rel => exact ⟨jj + 1, by omega, by omega, by rw [HY.out]; go_num, by go_num, hb9.trans ⟨rfl, rfl, rfl, Nat.le_refl _, fun _ _ => rfl⟩⟩
                                  case measure => simp [intOf]; omega
                                · have hs' : ((pth ps jj).toList == (pth ps k).toList) = false := by simpa using hs
                                  have HY := Hid.of (pl_no2 hs')
                                  clear hs hf2
                                  go_wp2
                                  go_quiet (fail)
                                  go_wp2
                                  go_roundw
                                  case rel => exact ⟨jj + 1, by omega, by omega, by rw [HY.out], by go_num, hb9.trans ⟨rfl, rfl, rfl, Nat.le_refl _, fun _ _ => rfl⟩⟩
                                  case measure => simp [intOf]; omega
                              · have HY := Hid.of (pl_no1 (i := k) hf2)
                                have hne : ((firstOf ps jj : Int) == (jj : Int)) = false := by simp; omega
                                clear hf2
                                go_wp2
                                go_quiet (fail)
                                go_wp2
                                go_roundw
                                case rel => exact ⟨jj + 1, by omega, by omega, by rw [HY.out], by go_num, hb9.trans ⟨rfl, rfl, rfl, Nat.le_refl _, fun _ _ => rfl⟩⟩
                                case measure => simp [intOf]; omega
                            · obtain rfl : jj = i := by omega
                              rw [HTN.out]
                              go_wp2
                              go_roundw
                              case rel => exact ⟨k + 1, by omega, by rw [HNW.out]; go_num, by go_num, E9, S8.below hb9⟩
                              case measure => simp [intOf]; omega
                      · obtain rfl : k = i := by omega
                        have HKY := Hid.of S.keys
                        go_wp2_with (first | (go_at_call 14; refine HKY.out.mono ?_; rintro e w9 ⟨rfl, hw⟩; subst hw))
                        go_ret
                        exact ⟨rfl, E.bel⟩
end Go.Proofs.Qxb6601393a.Smp
