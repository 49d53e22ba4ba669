/- A map keyed by strings whose elements are slices, told by what each key yields: laws of look-up, store and length. -/
import Derived.Test.Qxb6601393aRows
import Derived.Test.Qxb6601393aPlain
import Derived.WalkKit
import Derived.WalkLawsBesides
import Derived.Maps.Keyed
import Derived.ProofKit
namespace Go.Proofs.Qxb6601393a.Smp
open Go.RowKit
open Go.WideMaps (string_law keyOf_string_mk)
open Go.ChangeMaps (setBlock heap_setBlock_same heap_setBlock_other modify_eq_set)

theorem Hid.of {p : Prop} (h : p) : Hid p := h

/-- Block mb is a map; L p: what the key p yields (nil where there is none); K: its keys. -/
def MapIs (w : World) (mb : Nat) (L : ByteArray → Value) (K : List ByteArray) : Prop :=
  ∃ (es : Array MapEntry) (clock : Nat), w.heap[mb]? = some (.map es clock) ∧ es.toList.map (·.key) = K.map Value.string ∧ (∀ p ∈ K, p.size ≤ maxLen) ∧ K.Nodup ∧
    (∀ e ∈ es.toList, ∀ p, e.key = .string p → L p = e.val) ∧ ∀ p, p ∉ K → L p = .slice none 0 0

def putL (L : ByteArray → Value) (p : ByteArray) (v : Value) (q : ByteArray) : Value := if sameS q p then v else L q
theorem putL_same (L : ByteArray → Value) (p : ByteArray) (v : Value) : putL L p v p = v := by unfold putL; rw [sameS_self]; rfl
theorem putL_other (L : ByteArray → Value) (p : ByteArray) (v : Value) {q : ByteArray} (h : q ≠ p) : putL L p v q = L q := by unfold putL; rw [sameS_false h]; rfl

theorem keyed : Maps.Keyed Try.prog 9 := Maps.Keyed.of_law (string_law Try.underlying9)
theorem keys_read {es : Array MapEntry} {K : List ByteArray} (hk : es.toList.map (·.key) = K.map Value.string) (hs : ∀ p ∈ K, p.size ≤ maxLen) : ∀ e ∈ es.toList, ∃ l, keyOf Try.prog 9 e.key = some l := by
  intro e he
  have : e.key ∈ K.map Value.string := by rw [← hk]; exact List.mem_map.2 ⟨e, he, rfl⟩
  obtain ⟨p, hp, hpe⟩ := List.mem_map.1 this
  exact ⟨_, by rw [← hpe]; exact keyOf_string_mk Try.underlying9 (hs p hp)⟩
theorem not_key {es : Array MapEntry} {K : List ByteArray} {p : ByteArray} (hk : es.toList.map (·.key) = K.map Value.string) (h : ∀ e ∈ es.toList, e.key ≠ .string p) : p ∉ K := by
  intro hp
  have : Value.string p ∈ es.toList.map (·.key) := by rw [hk]; exact List.mem_map.2 ⟨p, hp, rfl⟩
  obtain ⟨e, he, hep⟩ := List.mem_map.1 this
  exact h e he hep

theorem MapIs.made (w : World) : MapIs (w.alloc (.map #[] 0)) w.heap.size (fun _ => .slice none 0 0) [] :=
  ⟨#[], 0, (MapKept.heap_alloc w _).1, rfl, by simp, by simp, by simp, fun _ _ => rfl⟩
theorem MapIs.of_block {w w' : World} {mb : Nat} {L : ByteArray → Value} {K : List ByteArray} (h : MapIs w mb L K) (hb : w'.heap[mb]? = w.heap[mb]?) : MapIs w' mb L K := by
  obtain ⟨es, clock, h1, r⟩ := h
  exact ⟨es, clock, hb.trans h1, r⟩
theorem MapIs.lt {w : World} {mb : Nat} {L : ByteArray → Value} {K : List ByteArray} (h : MapIs w mb L K) : mb < w.heap.size := by
  obtain ⟨es, clock, h1, _⟩ := h
  exact (Array.getElem?_eq_some_iff.1 h1).1
theorem MapIs.is {w : World} {mb : Nat} {L : ByteArray → Value} {K : List ByteArray} (h : MapIs w mb L K) : ∃ es clock, w.heap[mb]? = some (.map es clock) ∧ es.size = K.length := by
  obtain ⟨es, clock, h1, h2, _⟩ := h
  refine ⟨es, clock, h1, ?_⟩
  have := congrArg List.length h2
  simpa using this

/-- 'm[p]'. -/
theorem MapIs.look {w : World} {mb : Nat} {L : ByteArray → Value} {K : List ByteArray} (h : MapIs w mb L K) (p : ByteArray) (hp : p.size ≤ maxLen) :
    (Instr.lookup 37 (.map (some mb)) (.string p) false).run Try.prog w = .ok (L p) w := by
  obtain ⟨es, clock, hb, hk, hs, hnd, hv, hn⟩ := h
  have hkey := keyOf_string_mk (P := Try.prog) Try.underlying9 hp
  rcases keyed.find w hkey es.toList (keys_read hk hs) with ⟨h1, h2⟩ | ⟨j, e0, h1, h2, h3⟩
  · rw [hn p (not_key hk h2)]
    simp [Instr.lookup, run_underlying Try.underlying37, MapKept.run_getObj_map hb, keyed.check w _ hkey, h1, Result.andThen]
  · rw [hv e0 (List.mem_of_getElem? h2) p h3]
    simp [Instr.lookup, run_underlying Try.underlying37, MapKept.run_getObj_map hb, keyed.check w _ hkey, h1, Result.andThen]

/-- 'm[p] = v'. -/
theorem MapIs.put {w : World} {mb : Nat} {L : ByteArray → Value} {K : List ByteArray} (h : MapIs w mb L K) (p : ByteArray) (hp : p.size ≤ maxLen) (v : Value) :
    ∃ w', (Instr.mapUpdate 37 (.map (some mb)) (.string p) v).run Try.prog w = .ok () w' ∧ MapIs w' mb (putL L p v) (putK K p) ∧ w.grownBy w' (some mb) := by
  obtain ⟨es, clock, hb, hk, hs, hnd, hv, hn⟩ := h
  have hkey := keyOf_string_mk (P := Try.prog) Try.underlying9 hp
  rcases keyed.find w hkey es.toList (keys_read hk hs) with ⟨h1, h2⟩ | ⟨j, e0, h1, h2, h3⟩
  · have hpK := not_key hk h2
    have hhas : hasKey K p = false := by
      unfold hasKey
      rw [List.any_eq_false]
      intro q hq hqp
      exact hpK (by rw [← (sameS_iff q p).1 hqp]; exact hq)
    refine ⟨setBlock w mb (.map (es.push ⟨.string p, v, clock⟩) (clock + 1)), ?_, ⟨es.push ⟨.string p, v, clock⟩, clock + 1, heap_setBlock_same hb _, ?_, ?_, ?_, ?_, ?_⟩,
      ⟨rfl, rfl, rfl, by simp [setBlock], fun i _ hi => heap_setBlock_other hb _ (fun e1 => hi (by rw [e1]))⟩⟩
    · simp [Instr.mapUpdate, run_underlying Try.underlying37, MapKept.run_getObj_map hb, keyed.check w false hkey, h1, MapKept.run_setObj_map _ hb, Result.andThen, setBlock]
    · simp [putK, hhas, hk]
    · rw [putK, hhas]
      intro q hq
      rcases List.mem_append.1 hq with hq | hq
      · exact hs q hq
      · rw [List.mem_singleton.1 hq]; exact hp
    · rw [putK, hhas]
      exact List.nodup_append.2 ⟨hnd, by simp, fun a ha b hb e => hpK (by rw [← List.mem_singleton.1 hb, ← e]; exact ha)⟩
    · intro e he q hq
      simp only [Array.toList_push, List.mem_append, List.mem_singleton] at he
      rcases he with he | rfl
      · have hne : q ≠ p := fun e1 => h2 e he (by rw [hq, e1])
        rw [putL_other _ _ _ hne]
        exact hv e he q hq
      · simp only [Value.string.injEq] at hq
        subst hq
        exact putL_same _ _ _
    · intro q hq
      rw [putK, hhas] at hq
      have h4 : q ∉ K ∧ q ≠ p := by
        refine ⟨fun h => hq (List.mem_append.2 (.inl h)), fun h => hq (List.mem_append.2 (.inr (by simp [h])))⟩
      rw [putL_other _ _ _ h4.2]
      exact hn q h4.1
  · have hj : es[j]? = some e0 := by simpa using h2
    have hmem : e0 ∈ es.toList := List.mem_of_getElem? h2
    have hpK : p ∈ K := by
      have : Value.string p ∈ K.map Value.string := by rw [← hk]; exact List.mem_map.2 ⟨e0, hmem, h3⟩
      obtain ⟨q, hq, hqp⟩ := List.mem_map.1 this
      simp only [Value.string.injEq] at hqp
      rw [← hqp]; exact hq
    have hhas : hasKey K p = true := by
      unfold hasKey
      rw [List.any_eq_true]
      exact ⟨p, hpK, sameS_self p⟩
    have hlist : (es.modify j (fun e' => { e' with key := .string p, val := v })).toList = es.toList.set j { e0 with key := .string p, val := v } := by rw [Array.toList_modify, modify_eq_set _ _ _ _ h2]
    have hkn : (es.toList.map (·.key)).Nodup := by
      rw [hk]
      exact List.Pairwise.map _ (fun a b hab e => hab (by simpa using e)) hnd
    refine ⟨setBlock w mb (.map (es.modify j (fun e' => { e' with key := .string p, val := v })) clock), ?_, ⟨_, clock, heap_setBlock_same hb _, ?_, ?_, ?_, ?_, ?_⟩,
      ⟨rfl, rfl, rfl, by simp [setBlock], fun i _ hi => heap_setBlock_other hb _ (fun e1 => hi (by rw [e1]))⟩⟩
    · simp [Instr.mapUpdate, run_underlying Try.underlying37, MapKept.run_getObj_map hb, keyed.check w false hkey, h1, hj, h3, keyed.stays w hkey, MapKept.run_setObj_map _ hb, Result.andThen, setBlock]
    · rw [hlist, putK, hhas, if_pos rfl, ← hk, List.map_set]
      have : (es.toList.map (·.key)).set j (Value.string p) = es.toList.map (·.key) := by
        apply List.ext_getElem?
        intro i
        rw [List.getElem?_set]
        split
        · rename_i e; subst e
          rw [List.getElem?_map, h2]
          have hl : j < (es.toList.map (·.key)).length := by rw [List.length_map]; exact (List.getElem?_eq_some_iff.1 h2).1
          rw [if_pos hl]
          simp [h3]
        · rfl
      exact this
    · rw [putK, hhas, if_pos rfl]; exact hs
    · rw [putK, hhas, if_pos rfl]; exact hnd
    · intro e he q hq
      rw [hlist] at he
      obtain ⟨i, hi, ex⟩ := List.getElem_of_mem he
      rw [List.getElem_set] at ex
      split at ex
      · subst ex
        simp only [Value.string.injEq] at hq
        subst hq
        exact putL_same _ _ _
      · rename_i hne
        have hi' : i < es.toList.length := by simpa using hi
        have hemem : e ∈ es.toList := by rw [← ex]; exact List.getElem_mem hi'
        have hqp : q ≠ p := by
          intro e1
          apply hne
          have hjl : j < es.toList.length := (List.getElem?_eq_some_iff.1 h2).1
          have k1 : (es.toList.map (·.key))[j]'(by simpa using hjl) = .string p := by
            rw [List.getElem_map]
            have := (List.getElem?_eq_some_iff.1 h2).2
            rw [this]; exact h3
          have k2 : (es.toList.map (·.key))[i]'(by simpa using hi') = .string p := by
            rw [List.getElem_map, ex, hq, e1]
          exact (List.getElem_inj hkn).1 (k1.trans k2.symm)
        rw [putL_other _ _ _ hqp]
        exact hv e hemem q hq
    · intro q hq
      rw [putK, hhas, if_pos rfl] at hq
      have : q ≠ p := fun e => hq (by rw [e]; exact hpK)
      rw [putL_other _ _ _ this]
      exact hn q hq
end Go.Proofs.Qxb6601393a.Smp
