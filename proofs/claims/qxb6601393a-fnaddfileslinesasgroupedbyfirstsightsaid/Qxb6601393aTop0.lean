/- What the top function's loops hold, outside the walk. -/
import Derived.Test.Qxb6601393aCopy
namespace Go.Proofs.Qxb6601393a.Smp
open Go.RowKit

def rankOf (ps : Steps) (i : Nat) : Nat := if isF ps i then cnt ps i else 0
theorem rank_yes {ps : Steps} {i : Nat} (h : firstOf ps i = i) : rankOf ps i = cnt ps i := by simp [rankOf, isF, h]
theorem rank_no {ps : Steps} {i : Nat} (h : firstOf ps i ≠ i) : rankOf ps i = 0 := by simp [rankOf, isF, h]
theorem cnt_yes {ps : Steps} {i : Nat} (h : firstOf ps i = i) : cnt ps (i + 1) = cnt ps i + 1 := by rw [cnt_succ]; simp [isF, h]
theorem cnt_no {ps : Steps} {i : Nat} (h : firstOf ps i ≠ i) : cnt ps (i + 1) = cnt ps i := by rw [cnt_succ]; simp [isF, h]

/-- The copied steps, the row of firsts, the row of ranks (m of them told), all below B. -/
structure Env (w0 W : World) (B : Nat) (ca : Option Addr) (fb kb n : Nat) (ps : Steps) (m : Nat) : Prop where
  cp : Cp W B ca ps
  fr : Row W fb n (firstOf ps) n
  rk : Row W kb n (rankOf ps) m
  fB : fb < B
  kB : kb < B
  ne : fb ≠ kb
  cne : ∀ i, i < ps.length → ca ≠ some ⟨kb, 0, none⟩
  base : w0.heap.size ≤ kb
  top : B ≤ W.heap.size
  bel : Below w0.heap.size w0 W
section
variable {w0 W : World} {B : Nat} {ca : Option Addr} {fb kb n : Nat} {ps : Steps} {m : Nat}
theorem Env.below {W' : World} {C : Nat} (E : Env w0 W B ca fb kb n ps m) (hb : Below C W W') (hC : B ≤ C) : Env w0 W' B ca fb kb n ps m where
  cp := E.cp.below hb hC
  fr := E.fr.below hb (Nat.lt_of_lt_of_le E.fB hC)
  rk := E.rk.below hb (Nat.lt_of_lt_of_le E.kB hC)
  fB := E.fB
  kB := E.kB
  ne := E.ne
  cne := E.cne
  base := E.base
  top := Nat.le_trans E.top hb.size
  bel := E.bel.trans (hb.mono (by have := E.base; have := E.kB; omega))
theorem Env.put (E : Env w0 W B ca fb kb n ps m) (hm : m < n) {r : Nat} (hr : rankOf ps m = r) : Env w0 (W.setCell ⟨kb, m, none⟩ (.int .i64 (r : Nat))) B ca fb kb n ps (m + 1) where
  cp := by
    intro i hi
    obtain ⟨g, hg, ha, h0, h1⟩ := E.cp i hi
    have hne : g ≠ kb := fun e => E.cne i hi (by rw [ha, e])
    have hh : (W.setCell ⟨kb, m, none⟩ (.int .i64 (r : Nat))).heap[g]? = W.heap[g]? := Below.heap_setCell _ _ _ _ hne
    exact ⟨g, hg, ha, (World.cell?_of_block (w := W) (a := ⟨g, i * 2, none⟩) hh).trans h0, (World.cell?_of_block (w := W) (a := ⟨g, i * 2 + 1, none⟩) hh).trans h1⟩
  fr := E.fr.keep (Below.heap_setCell _ _ _ _ E.ne)
  rk := E.rk.put hm hr
  fB := E.fB
  kB := E.kB
  ne := E.ne
  cne := E.cne
  base := E.base
  top := by rw [size_setCell]; exact E.top
  bel := E.bel.setCell E.base _
theorem Env.pass (E : Env w0 W B ca fb kb n ps m) (hr : rankOf ps m = 0) : Env w0 W B ca fb kb n ps (m + 1) :=
  ⟨E.cp, E.fr, E.rk.pass hr, E.fB, E.kB, E.ne, E.cne, E.base, E.top, E.bel⟩
end

theorem small_of (ps : Steps) (q : Nat) (hq : q ≤ 4096) : Small (Rf ps q) := by
  have F := folded ps q
  refine ⟨by rw [F.len]; exact Nat.le_trans (cnt_le ps q) hq, fun k r hr => ?_⟩
  have hk : k < cnt ps q := by rw [← F.len]; exact get_lt hr
  obtain ⟨i, hi, hf, hc⟩ := F.back k hk
  have := F.at' i hi hf
  rw [hc, hr] at this
  obtain rfl := Option.some.inj this
  refine Nat.le_trans (List.length_filter_le _ _) ?_
  rw [List.length_range]
  exact hq

/-- The j-th hit of a filter over the first n numbers. -/
theorem filt_at (P : Nat → Bool) (n j : Nat) (hj : j < n) (h : P j = true) : ((List.range n).filter P)[((List.range j).filter P).length]? = some j := by
  induction n with
  | zero => omega
  | succ n ih =>
    rw [List.range_succ, List.filter_append]
    by_cases e : j = n
    · subst e
      rw [List.getElem?_append_right (Nat.le_refl _), Nat.sub_self]
      simp [h]
    · have := ih (by omega)
      rw [List.getElem?_append_left (List.getElem?_eq_some_iff.1 this).1]
      exact this
theorem filt_succ (P : Nat → Bool) (j : Nat) : ((List.range (j + 1)).filter P).length = ((List.range j).filter P).length + (if P j then 1 else 0) := by
  rw [List.range_succ, List.filter_append, List.length_append]
  cases h : P j <;> simp [h]
theorem filt_yes {P : Nat → Bool} {j : Nat} (h : P j = true) : ((List.range (j + 1)).filter P).length = ((List.range j).filter P).length + 1 := by rw [filt_succ, h]; rfl
theorem filt_no {P : Nat → Bool} {j : Nat} (h : P j = false) : ((List.range (j + 1)).filter P).length = ((List.range j).filter P).length := by rw [filt_succ, h]; rfl
theorem filt_lt {P : Nat → Bool} {n j : Nat} (hj : j < n) (h : P j = true) : ((List.range j).filter P).length < ((List.range n).filter P).length := (List.getElem?_eq_some_iff.1 (filt_at P n j hj h)).1
theorem filt_le (P : Nat → Bool) (n : Nat) : ((List.range n).filter P).length ≤ n := by
  have := List.length_filter_le P (List.range n)
  rwa [List.length_range] at this

/-- The tests of the tags. -/
def tagP (ps : Steps) (i j : Nat) : Bool := firstOf ps j == i
/-- The tests of the places. -/
def plP (ps : Steps) (i j : Nat) : Bool := isF ps j && sameS (pth ps j) (pth ps i)
def newP (ps : Steps) (i : Nat) : Bool := !seen ps i
def num (P : Nat → Bool) (n : Nat) : Nat := ((List.range n).filter P).length
theorem tag_at {ps : Steps} {n i j : Nat} (hj : j < n) (h : firstOf ps j = i) : num (tagP ps i) j < (tagsOf ps n i).length ∧ (tagsOf ps n i).getD (num (tagP ps i) j) 0 = j := by
  have h' : tagP ps i j = true := by simp [tagP, h]
  refine ⟨filt_lt hj h', ?_⟩
  have := filt_at (tagP ps i) n j hj h'
  show ((tagsOf ps n i)[_]?).getD 0 = j
  show ((((List.range n).filter (tagP ps i))[num (tagP ps i) j]?).getD 0) = j
  unfold num
  rw [this]
  rfl
theorem tag_zero (ps : Steps) (i : Nat) : num (tagP ps i) i = 0 := by
  have := tagsOf_self ps i
  show (tagsOf ps i i).length = 0
  rw [this]; rfl
theorem pl_zero {ps : Steps} {i : Nat} (h : seen ps i = false) : num (plP ps i) i = 0 := by
  show ((List.range i).filter (plP ps i)).length = 0
  rw [List.length_eq_zero_iff, List.filter_eq_nil_iff]
  intro j hj hp
  have hji := List.mem_range.1 hj
  simp only [plP, Bool.and_eq_true] at hp
  have : seen ps i = true := (seen_iff ps i).2 ⟨j, hji, (sameS_iff _ _).1 hp.2⟩
  rw [h] at this
  cases this
theorem pl_len (ps : Steps) (n i : Nat) : (idx (Rf ps n) (pth ps i)).length = num (plP ps i) n := by
  rw [(folded ps n).idxs, List.length_map]
  rfl
theorem pl_at {ps : Steps} {n i j : Nat} (hj : j < n) (hf : firstOf ps j = j) (hp : sameS (pth ps j) (pth ps i) = true) : num (plP ps i) j < num (plP ps i) n ∧ (idx (Rf ps n) (pth ps i)).getD (num (plP ps i) j) 0 = cnt ps j := by
  have h' : plP ps i j = true := by simp [plP, isF, hf, hp]
  refine ⟨filt_lt hj h', ?_⟩
  have := filt_at (plP ps i) n j hj h'
  rw [(folded ps n).idxs]
  show ((((List.range n).filter (plP ps i)).map (cnt ps))[num (plP ps i) j]?).getD 0 = cnt ps j
  unfold num
  rw [List.getElem?_map, this]
  rfl
theorem keys_len (ps : Steps) (n : Nat) : (Kf ps n).length = num (newP ps) n := by
  rw [(folded ps n).keys, List.length_map]
  rfl
end Go.Proofs.Qxb6601393a.Smp
namespace Go.Proofs.Qxb6601393a.Smp
open Go.RowKit
theorem Src.below {w w' : World} {a : Option Addr} {ps : Steps} (h : Src w a ps) (hb : Below w.heap.size w w') : Src w' a ps := by
  intro i hi
  obtain ⟨b, o, hbl, ha, h0, h1, h2⟩ := h i hi
  exact ⟨b, o, Nat.lt_of_lt_of_le hbl hb.size, ha, (hb.cell (p := ⟨b, o + i * 2, none⟩) hbl).trans h0, (hb.cell (p := ⟨b, o + i * 2 + 1, none⟩) hbl).trans h1, h2⟩
/-- How the slice came in: nil, or at an address. -/
def Lies (a : Option Addr) (n cap : Nat) : Prop := (a = none ∧ n = 0 ∧ cap = 0) ∨ ∃ b o, a = some ⟨b, o, none⟩
theorem copy_both (w : World) (a : Option Addr) (cap : Nat) (ps : Steps) (ha : Lies a ps.length cap) (hc : Src w a ps) (hn : ps.length ≤ 4096) :
    Calls Try.prog 6 #[.slice a ps.length cap] w fun e w' => ∃ ca cc, e = .returned (.slice ca ps.length cc) ∧ Cp w' w'.heap.size ca ps ∧ Below w.heap.size w w' := by
  rcases ha with ⟨rfl, h0, rfl⟩ | ⟨b, o, rfl⟩
  · rw [h0]
    refine (copy_nil w).mono ?_
    rintro e w' ⟨rfl, hw⟩
    subst hw
    exact ⟨none, 0, rfl, fun i hi => by omega, Below.refl _ _⟩
  · refine (copy_any w b o cap ps hc hn).mono ?_
    rintro e w' ⟨rfl, h1, h2⟩
    exact ⟨_, _, rfl, h1, h2⟩
theorem env_start {w W1 W2 W3 : World} {ca : Option Addr} {ps : Steps} {n : Nat} (h1 : Below w.heap.size w W1) (hcp : Cp W1 W1.heap.size ca ps) (h2 : Below W1.heap.size W1 W2) (hf : Row W2 W1.heap.size n (firstOf ps) n)
    (h3 : Below W2.heap.size W2 W3) (hk : Row W3 W2.heap.size n (rankOf ps) 0) : Env w W3 (W2.heap.size + 1) ca W1.heap.size W2.heap.size n ps 0 where
  cp := fun i hi => by
    obtain ⟨g, hg, r⟩ := ((hcp.below h2 (Nat.le_refl _)).below h3 h2.size) i hi
    have := h2.size
    exact ⟨g, by omega, r⟩
  fr := hf.below h3 hf.lt
  rk := hk
  fB := by have := hf.lt; omega
  kB := by omega
  ne := by have := hf.lt; omega
  cne := fun i hi e => by
    obtain ⟨g, hg, ha, _⟩ := hcp i hi
    have := h2.size
    have e2 : g = W2.heap.size := (Addr.mk.inj (Option.some.inj (ha.symm.trans e))).1
    omega
  base := by have := h1.size; have := h2.size; omega
  top := hk.lt
  bel := h1.trans ((h2.mono h1.size).trans (h3.mono (Nat.le_trans h1.size h2.size)))
end Go.Proofs.Qxb6601393a.Smp
namespace Go.Proofs.Qxb6601393a.Smp
open Go.RowKit
/-- A Sample that holds the first q steps. -/
def SampE (w : World) (B sb mb : Nat) (ps : Steps) (q : Nat) : Prop := ∃ vr L rb sv, Samp w B sb (Rf ps q) (Kf ps q) vr mb L rb sv
theorem SampE.below {w w' : World} {B sb mb : Nat} {ps : Steps} {q : Nat} (S : SampE w B sb mb ps q) (hb : Below w.heap.size w w') : SampE w' B sb mb ps q := by
  obtain ⟨vr, L, rb, sv, S⟩ := S
  exact ⟨vr, L, rb, sv, S.below hb⟩
theorem SampE.top {w : World} {B sb mb : Nat} {ps : Steps} {q : Nat} (S : SampE w B sb mb ps q) : B ≤ w.heap.size := by
  obtain ⟨vr, L, rb, sv, S⟩ := S
  have := lt_of S.hs
  have := S.sbB
  omega
theorem SampE.add {w : World} {B sb mb : Nat} {ps : Steps} {q : Nat} (S : SampE w B sb mb ps q) (hq : q ≤ 4096) (hp : (pth ps q).size ≤ maxLen) :
    Calls Try.prog 9 #[ptr sb, .string (pth ps q), .string (acp ps q), .int .i64 (q : Nat)] w fun e w' => e = .returned (.tuple #[]) ∧ SampE w' B sb mb ps (q + 1) ∧ Below B w w' := by
  have hB := S.top
  obtain ⟨vr, L, rb, sv, S⟩ := S
  exact zzadd_any (pth ps q) (acp ps q) q S (small_of ps q hq) hB hp
theorem SampE.count {w : World} {B sb mb : Nat} {ps : Steps} {q : Nat} (S : SampE w B sb mb ps q) : Calls Try.prog 10 #[ptr sb] w fun e w' => e = .returned (.int .i64 (cnt ps q : Nat)) ∧ w = w' := by
  obtain ⟨vr, L, rb, sv, S⟩ := S
  have := count_any S
  rwa [(folded ps q).len] at this
theorem SampE.keys {w : World} {B sb mb : Nat} {ps : Steps} {q : Nat} (S : SampE w B sb mb ps q) : Calls Try.prog 14 #[ptr sb] w fun e w' => e = .returned (.int .i64 (num (newP ps) q : Nat)) ∧ w = w' := by
  obtain ⟨vr, L, rb, sv, S⟩ := S
  have := paths_any S
  rwa [keys_len] at this
theorem SampE.res {w : World} {B sb mb : Nat} {ps : Steps} {n i : Nat} (S : SampE w B sb mb ps n) (hn : n ≤ 4096) (hi : i < n) (hf : firstOf ps i = i) :
    Calls Try.prog 11 #[ptr sb, .int .i64 (cnt ps i : Nat)] w fun e w' => e = .returned (.tuple #[.int .i64 (cnt ps i : Nat), .string (acp ps i), .slice (some ⟨w.heap.size, 0, none⟩) (tagsOf ps n i).length (tagsOf ps n i).length]) ∧ Row w' w.heap.size (tagsOf ps n i).length (fun j => (tagsOf ps n i).getD j 0) (tagsOf ps n i).length ∧ Below w.heap.size w w' := by
  obtain ⟨vr, L, rb, sv, S⟩ := S
  exact resource_any S (small_of ps n hn) (cnt ps i) _ ((folded ps n).at' i hi (by simp [isF, hf]))
theorem SampE.places {w : World} {B sb mb : Nat} {ps : Steps} {n i : Nat} (S : SampE w B sb mb ps n) (hn : n ≤ 4096) (hp : (pth ps i).size ≤ maxLen) :
    Calls Try.prog 13 #[ptr sb, .string (pth ps i)] w fun e w' => e = .returned (.slice (some ⟨w.heap.size, 0, none⟩) (num (plP ps i) n) (num (plP ps i) n)) ∧ Row w' w.heap.size (num (plP ps i) n) (fun j => (idx (Rf ps n) (pth ps i)).getD j 0) (num (plP ps i) n) ∧ Below w.heap.size w w' := by
  obtain ⟨vr, L, rb, sv, S⟩ := S
  have := places_any S (small_of ps n hn) (pth ps i) hp
  rwa [pl_len] at this
end Go.Proofs.Qxb6601393a.Smp
namespace Go.Proofs.Qxb6601393a.Smp
open Go.RowKit
def tagF (ps : Steps) (n i k : Nat) : Nat := (tagsOf ps n i).getD k 0
def plF (ps : Steps) (n i k : Nat) : Nat := (idx (Rf ps n) (pth ps i)).getD k 0
theorem SampE.res' {w : World} {B sb mb : Nat} {ps : Steps} {n i : Nat} (S : SampE w B sb mb ps n) (hn : n ≤ 4096) (hi : i < n) (hf : firstOf ps i = i) :
    Calls Try.prog 11 #[ptr sb, .int .i64 (cnt ps i : Nat)] w fun e w' => e = .returned (.tuple #[.int .i64 (cnt ps i : Nat), .string (acp ps i), .slice (some ⟨w.heap.size, 0, none⟩) (num (tagP ps i) n) (num (tagP ps i) n)]) ∧ Row w' w.heap.size (num (tagP ps i) n) (tagF ps n i) (num (tagP ps i) n) ∧ Below w.heap.size w w' := S.res hn hi hf
theorem SampE.places' {w : World} {B sb mb : Nat} {ps : Steps} {n i : Nat} (S : SampE w B sb mb ps n) (hn : n ≤ 4096) (hp : (pth ps i).size ≤ maxLen) :
    Calls Try.prog 13 #[ptr sb, .string (pth ps i)] w fun e w' => e = .returned (.slice (some ⟨w.heap.size, 0, none⟩) (num (plP ps i) n) (num (plP ps i) n)) ∧ Row w' w.heap.size (num (plP ps i) n) (plF ps n i) (num (plP ps i) n) ∧ Below w.heap.size w w' := S.places hn hp
theorem tag_at' {ps : Steps} {n i j : Nat} (hj : j < n) (h : firstOf ps j = i) : num (tagP ps i) j < num (tagP ps i) n ∧ tagF ps n i (num (tagP ps i) j) = j := tag_at hj h
theorem tag_yes {ps : Steps} {i j : Nat} (h : firstOf ps j = i) : num (tagP ps i) (j + 1) = num (tagP ps i) j + 1 := filt_yes (by simp [tagP, h])
theorem tag_no {ps : Steps} {i j : Nat} (h : firstOf ps j ≠ i) : num (tagP ps i) (j + 1) = num (tagP ps i) j := filt_no (by simp [tagP, h])
theorem pl_yes {ps : Steps} {i j : Nat} (hf : firstOf ps j = j) (hp : ((pth ps j).toList == (pth ps i).toList) = true) : num (plP ps i) (j + 1) = num (plP ps i) j + 1 := filt_yes (by
  rw [plP, show sameS (pth ps j) (pth ps i) = true from hp]; simp [isF, hf])
theorem pl_no1 {ps : Steps} {i j : Nat} (hf : firstOf ps j ≠ j) : num (plP ps i) (j + 1) = num (plP ps i) j := filt_no (by simp [plP, isF, hf])
theorem pl_no2 {ps : Steps} {i j : Nat} (hp : ((pth ps j).toList == (pth ps i).toList) = false) : num (plP ps i) (j + 1) = num (plP ps i) j := filt_no (by
  rw [plP, show sameS (pth ps j) (pth ps i) = false from hp, Bool.and_false])
theorem pl_at' {ps : Steps} {n i j : Nat} (hj : j < n) (hf : firstOf ps j = j) (hp : ((pth ps j).toList == (pth ps i).toList) = true) : num (plP ps i) j < num (plP ps i) n ∧ plF ps n i (num (plP ps i) j) = cnt ps j := pl_at hj hf hp
theorem new_yes {ps : Steps} {i : Nat} (h : seen ps i = false) : num (newP ps) (i + 1) = num (newP ps) i + 1 := filt_yes (by simp [newP, h])
theorem new_no {ps : Steps} {i : Nat} (h : seen ps i = true) : num (newP ps) (i + 1) = num (newP ps) i := filt_no (by simp [newP, h])
theorem num_le (P : Nat → Bool) (n : Nat) : num P n ≤ n := filt_le P n
end Go.Proofs.Qxb6601393a.Smp
namespace Go.Proofs.Qxb6601393a.Smp
open Go.RowKit
theorem Cp.mono {w : World} {B C : Nat} {a : Option Addr} {ps : Steps} (h : Cp w B a ps) (hC : B ≤ C) : Cp w C a ps := fun i hi => by
  obtain ⟨g, hg, r⟩ := h i hi
  exact ⟨g, by omega, r⟩
end Go.Proofs.Qxb6601393a.Smp
