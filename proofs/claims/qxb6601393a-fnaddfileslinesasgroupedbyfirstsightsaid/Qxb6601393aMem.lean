/- The Sample in memory, and what one 'add' does to it. -/
import Derived.Test.Qxb6601393aMap
import Derived.Deep.AppendLies
namespace Go.Proofs.Qxb6601393a.Smp
open Go.RowKit

def ptr (b : Nat) : Value := .pointer (some ⟨b, 0, none⟩)

theorem owns_heap {w : World} {B : Nat} {e : TypeId} {v : Value} {n : Nat} {xs : List Value} {g : Nat} (h : w.ownsRow B e 1 v n xs) (hg : v.ownBlock = some g) : ∃ cur, w.heap[g]? = some (.cells cur e (0, 0)) := by
  rcases h.2 with ⟨rfl, _⟩ | ⟨g', cap, cur, rfl, _, hh, _⟩
  · simp [Value.ownBlock] at hg
  · simp [Value.ownBlock] at hg
    subst hg
    exact ⟨cur, hh⟩
theorem owns_keep {w w' : World} {B : Nat} {e : TypeId} {v : Value} {n : Nat} {xs : List Value} (h : w.ownsRow B e 1 v n xs) (hb : ∀ g, v.ownBlock = some g → w'.heap[g]? = w.heap[g]?) : w'.ownsRow B e 1 v n xs := by
  refine ⟨h.1, ?_⟩
  rcases h.2 with h2 | ⟨g, cap, cur, hv, hbg, hh, r⟩
  · exact .inl h2
  · exact .inr ⟨g, cap, cur, hv, hbg, by rw [hb g (by rw [hv]; rfl)]; exact hh, r⟩
theorem kinds {w : World} {a b : Nat} {o o' : Array Value} {e e' : TypeId} {f f' : Nat × Nat} (h : w.heap[a]? = some (.cells o e f)) (h' : w.heap[b]? = some (.cells o' e' f')) (hne : e ≠ e') : a ≠ b := by
  intro hab
  subst hab
  rw [h] at h'
  simp at h'
  exact hne h'.2.1
theorem kindm {w : World} {a b : Nat} {o : Array Value} {e : TypeId} {f : Nat × Nat} {es : Array MapEntry} {cl : Nat} (h : w.heap[a]? = some (.cells o e f)) (h' : w.heap[b]? = some (.map es cl)) : a ≠ b := by
  intro hab
  subst hab
  rw [h] at h'
  simp at h'
theorem lt_of {w : World} {a : Nat} {o : Obj} (h : w.heap[a]? = some o) : a < w.heap.size := (Array.getElem?_eq_some_iff.1 h).1

/-- The slice v holds pointers to recordings that bear these tags. -/
def Recs (w : World) (B : Nat) (v : Value) (tags : List Nat) : Prop :=
  ∃ cs : List Nat, cs.length = tags.length ∧ w.ownsRow B 42 1 v tags.length (cs.map ptr) ∧ ∀ (j c t : Nat), cs[j]? = some c → tags[j]? = some t → ∃ o : Array Value, w.heap[c]? = some (.cells o 45 (0, 0)) ∧ o[0]? = some (.int .i64 (t : Nat))
theorem Recs.keep {w w' : World} {B : Nat} {v : Value} {tags : List Nat} (h : Recs w B v tags) (h1 : ∀ g, v.ownBlock = some g → w'.heap[g]? = w.heap[g]?) (h2 : ∀ (c : Nat) (o : Array Value), w.heap[c]? = some (.cells o 45 (0, 0)) → w'.heap[c]? = w.heap[c]?) : Recs w' B v tags := by
  obtain ⟨cs, hl, ho, hr⟩ := h
  refine ⟨cs, hl, owns_keep ho h1, fun j c t hj ht => ?_⟩
  obtain ⟨o, a, b⟩ := hr j c t hj ht
  exact ⟨o, (h2 c o a).trans a, b⟩
theorem Recs.heap {w : World} {B : Nat} {v : Value} {tags : List Nat} {g : Nat} (h : Recs w B v tags) (hg : v.ownBlock = some g) : ∃ cur, w.heap[g]? = some (.cells cur 42 (0, 0)) := by
  obtain ⟨cs, hl, ho, hr⟩ := h
  exact owns_heap ho hg

/-- The Sample at block sb holds the resources R; its map's keys are K. -/
structure Samp (w : World) (B sb : Nat) (R : List Rec) (K : List ByteArray) (vr : Value) (mb : Nat) (L : ByteArray → Value) (rb : Nat → Nat) (sv : Nat → Value) : Prop where
  hs : w.heap[sb]? = some (.cells #[vr, .map (some mb)] 40 (0, 0))
  row : w.ownsRow B 46 1 vr R.length ((List.range R.length).map fun k => ptr (rb k))
  res : ∀ k r, R[k]? = some r → w.heap[rb k]? = some (.cells #[.int .i64 (k : Nat), .string r.acc, sv k] 49 (0, 0))
  sts : ∀ k r, R[k]? = some r → Recs w B (sv k) r.tags
  mp : MapIs w mb L K
  vals : ∀ p, w.ownsRow B 46 1 (L p) (idx R p).length ((idx R p).map fun k => ptr (rb k))
  sbB : B ≤ sb
  mbB : B ≤ mb
  rbB : ∀ k, k < R.length → B ≤ rb k
  rinj : ∀ k j, k < R.length → j < R.length → rb k = rb j → k = j
  sap : ∀ k j, k < R.length → j < R.length → k ≠ j → (sv k).ownBlock = none ∨ (sv k).ownBlock ≠ (sv j).ownBlock
  lap : ∀ p q, p ≠ q → (L p).ownBlock = none ∨ (L p).ownBlock ≠ (L q).ownBlock
  lvr : ∀ p, (L p).ownBlock = none ∨ (L p).ownBlock ≠ vr.ownBlock

section
variable {w : World} {B sb : Nat} {R : List Rec} {K : List ByteArray} {vr : Value} {mb : Nat} {L : ByteArray → Value} {rb : Nat → Nat} {sv : Nat → Value}

theorem get_lt {R : List Rec} {k : Nat} {r : Rec} (h : R[k]? = some r) : k < R.length := (List.getElem?_eq_some_iff.1 h).1
theorem get_at {R : List Rec} {k : Nat} (h : k < R.length) : ∃ r, R[k]? = some r := ⟨_, List.getElem?_eq_getElem h⟩

/-- Nothing of it turns where all old blocks stay. -/
theorem Samp.below {w' : World} (S : Samp w B sb R K vr mb L rb sv) (hb : Below w.heap.size w w') : Samp w' B sb R K vr mb L rb sv where
  hs := (hb.block _ (lt_of S.hs)).trans S.hs
  row := owns_keep S.row fun g hg => by obtain ⟨cur, hh⟩ := owns_heap S.row hg; exact hb.block _ (lt_of hh)
  res := fun k r hr => (hb.block _ (lt_of (S.res k r hr))).trans (S.res k r hr)
  sts := fun k r hr => (S.sts k r hr).keep (fun g hg => by obtain ⟨cur, hh⟩ := (S.sts k r hr).heap hg; exact hb.block _ (lt_of hh)) (fun c o h => hb.block _ (lt_of h))
  mp := S.mp.of_block (hb.block _ S.mp.lt)
  vals := fun p => owns_keep (S.vals p) fun g hg => by obtain ⟨cur, hh⟩ := owns_heap (S.vals p) hg; exact hb.block _ (lt_of hh)
  sbB := S.sbB
  mbB := S.mbB
  rbB := S.rbB
  rinj := S.rinj
  sap := S.sap
  lap := S.lap
  lvr := S.lvr

theorem modify_get {R : List Rec} {k j t : Nat} {r : Rec} (h : (R.modify k (addTag t))[j]? = some r) : ∃ r0, R[j]? = some r0 ∧ r.acc = r0.acc ∧ ((j = k ∧ r.tags = r0.tags ++ [t]) ∨ (j ≠ k ∧ r.tags = r0.tags)) := by
  rw [List.getElem?_modify] at h
  cases hr : R[j]? with
  | none => rw [hr] at h; simp at h
  | some r0 =>
    rw [hr] at h
    by_cases e : k = j
    · subst e
      simp at h
      subst h
      exact ⟨r0, rfl, rfl, .inl ⟨rfl, rfl⟩⟩
    · simp [e] at h
      subst h
      exact ⟨r0, rfl, rfl, .inr ⟨fun h => e h.symm, rfl⟩⟩

/-- One more state at resource k. -/
theorem Samp.found {w' : World} {k t : Nat} {r : Rec} {s' : Value} (S : Samp w B sb R K vr mb L rb sv) (hk : R[k]? = some r)
    (hch : ∀ b, b < w.heap.size → some b ≠ (sv k).ownBlock → b ≠ rb k → w'.heap[b]? = w.heap[b]?)
    (hres : w'.heap[rb k]? = some (.cells #[.int .i64 (k : Nat), .string r.acc, s'] 49 (0, 0))) (hrec : Recs w' B s' (r.tags ++ [t]))
    (hs' : s'.ownBlock = (sv k).ownBlock ∨ ∃ g, s'.ownBlock = some g ∧ w.heap.size ≤ g) :
    Samp w' B sb (R.modify k (addTag t)) K vr mb L rb (fun j => if j = k then s' else sv j) := by
  have hkl := get_lt hk
  have rk := S.res k r hk
  -- a block of another kind than 42 and 49 stays
  have stay : ∀ (b : Nat) (o : Array Value) (e : TypeId) (f : Nat × Nat), w.heap[b]? = some (.cells o e f) → e ≠ 42 → e ≠ 49 → w'.heap[b]? = w.heap[b]? := by
    intro b o e f hb h42 h49
    refine hch b (lt_of hb) (fun hg => ?_) (kinds hb rk h49)
    obtain ⟨cur, hh⟩ := (S.sts k r hk).heap hg.symm
    exact kinds hb hh h42 rfl
  have oldsv : ∀ j r0, R[j]? = some r0 → j ≠ k → Recs w' B (sv j) r0.tags := by
    intro j r0 hj hjk
    refine (S.sts j r0 hj).keep (fun g hg => ?_) (fun c o h => stay c o 45 _ h (by decide) (by decide))
    obtain ⟨cur, hh⟩ := (S.sts j r0 hj).heap hg
    refine hch g (lt_of hh) (fun e => ?_) (kinds hh rk (by decide))
    rcases S.sap j k (get_lt hj) hkl hjk with h | h
    · rw [h] at hg; cases hg
    · exact h (by rw [hg, e])
  have hlen : (R.modify k (addTag t)).length = R.length := List.length_modify ..
  refine ⟨(stay _ _ _ _ S.hs (by decide) (by decide)).trans S.hs, ?_, fun j r1 hj => ?_, fun j r1 hj => ?_, ?_, fun p => ?_, S.sbB, S.mbB, fun j hj => S.rbB j (by rw [hlen] at hj; exact hj), fun a b ha hb => S.rinj a b (by rw [hlen] at ha; exact ha) (by rw [hlen] at hb; exact hb), fun a b ha hb hab => ?_, S.lap, S.lvr⟩
  · rw [hlen]
    exact owns_keep S.row fun g hg => by obtain ⟨cur, hh⟩ := owns_heap S.row hg; exact stay g cur 46 _ hh (by decide) (by decide)
  · obtain ⟨r0, h0, ha, hw⟩ := modify_get hj
    by_cases e : j = k
    · subst e
      rw [h0] at hk
      obtain rfl := Option.some.inj hk
      rw [hres, if_pos rfl, ha]
    · rw [if_neg e, ha]
      have old := S.res j r0 h0
      refine (hch _ (lt_of old) (fun hg => ?_) (fun h => e (S.rinj j k (get_lt h0) hkl h))).trans old
      obtain ⟨cur, hh⟩ := (S.sts k r hk).heap hg.symm
      exact kinds old hh (by decide) rfl
  · obtain ⟨r0, h0, _, hw⟩ := modify_get hj
    rcases hw with ⟨e, ht⟩ | ⟨e, ht⟩
    · subst e
      rw [h0] at hk
      obtain rfl := Option.some.inj hk
      rw [if_pos rfl, ht]
      exact hrec
    · rw [if_neg e, ht]
      exact oldsv j r0 h0 e
  · obtain ⟨es, cl, hm, _⟩ := S.mp.is
    refine S.mp.of_block (hch mb S.mp.lt (fun hg => ?_) (fun h => kindm rk hm h.symm))
    obtain ⟨cur, hh⟩ := (S.sts k r hk).heap hg.symm
    exact kindm hh hm rfl
  · rw [idx_modify]
    exact owns_keep (S.vals p) fun g hg => by obtain ⟨cur, hh⟩ := owns_heap (S.vals p) hg; exact stay g cur 46 _ hh (by decide) (by decide)
  · rw [hlen] at ha hb
    have newer : ∀ j, j < R.length → j ≠ k → (sv j).ownBlock = none ∨ (sv j).ownBlock ≠ s'.ownBlock := by
      intro j hj hjk
      obtain ⟨rj, hrj⟩ := get_at hj
      rcases hs' with h | ⟨g, h, hge⟩
      · rw [h]; exact S.sap j k hj hkl hjk
      · cases hv : (sv j).ownBlock with
        | none => exact .inl rfl
        | some g' =>
          right
          rw [h]
          intro e
          obtain ⟨cur, hh⟩ := (S.sts j rj hrj).heap hv
          have := lt_of hh
          have := Option.some.inj e
          omega
    by_cases e1 : a = k
    · subst e1
      rw [if_pos rfl, if_neg (fun h => hab h.symm)]
      rcases newer b hb (fun h => hab h.symm) with h | h
      · cases hv : s'.ownBlock with
        | none => exact .inl rfl
        | some g => right; rw [h]; simp
      · right; exact fun h' => h h'.symm
    · by_cases e2 : b = k
      · subst e2
        rw [if_neg e1, if_pos rfl]
        exact newer a ha e1
      · rw [if_neg e1, if_neg e2]
        exact S.sap a b ha hb hab
end
end Go.Proofs.Qxb6601393a.Smp
