/-
  A map[string]any THAT THE CALL ITSELF MAKES: what its block holds ('IsMap'), its look-up and its store, entry by entry. (The kit's 'ownsMap' has a store's law for plain elements alone; here the elements are interface values that may lead to memory.)
-/
import Derived.Test.Qxb6609504aModsChecked
import Derived.Test.Qxb6609504aModsPlain
import Derived.WalkKit
import Derived.Below
import Derived.MapKept
import Derived.Laws.StructEq
namespace Go.Proofs.Qxb6609504aMods.Add
open Go.RowKit
set_option linter.unusedVariables false

theorem beq_str (a b : ByteArray) : (a == b) = decide (a = b) := by
  rw [beq_toListBytes, ByteArray.toList_eq, ByteArray.toList_eq]
  by_cases h : a = b
  · subst h; simp
  · have : a.data.toList ≠ b.data.toList := fun e => h (by
      obtain ⟨⟨x⟩⟩ := a
      obtain ⟨⟨y⟩⟩ := b
      simp at e
      rw [e])
    rw [decide_eq_false h]
    exact beq_eq_false_iff_ne.2 this

/-- Block b is a map that holds the entries L, in that order. -/
def IsMap (w : World) (b : Nat) (L : List (ByteArray × Value)) : Prop :=
  ∃ es clock, w.heap[b]? = some (.map es clock) ∧ es.toList.map (fun e => (e.key, e.val)) = L.map (fun x => (Value.string x.1, x.2))

theorem find_some (k : ByteArray) (v : Value) : ∀ (es : List MapEntry) (L : List (ByteArray × Value)) (i : Nat), es.map (fun e => (e.key, e.val)) = L.map (fun x => (Value.string x.1, x.2)) → Tab.look L k = some v →
    ∃ j, Instr.findNow .string (.string k) es i = some (some (i + j, v)) ∧ (∃ e, es[j]? = some e ∧ e.key = .string k) ∧ ∀ u, Tab.upd L k u = L.set j (k, u)
  | [], [], i, _, h => by simp [Tab.look] at h
  | e :: es, (k', v') :: L, i, hm, h => by
    simp only [List.map_cons, List.cons.injEq, Prod.mk.injEq] at hm
    obtain ⟨⟨hk, hv⟩, hr⟩ := hm
    by_cases hkk : k' = k
    · subst hkk
      simp [Tab.look] at h
      subst h
      exact ⟨0, by simp [Instr.findNow, hk, Instr.sameNow, beq_str, hv], ⟨e, rfl, hk⟩, fun u => by simp [Tab.upd]⟩
    · simp only [Tab.look, if_neg hkk] at h
      obtain ⟨j, h1, ⟨e', h2, h3⟩, h4⟩ := find_some k v es L (i + 1) hr h
      refine ⟨j + 1, ?_, ⟨e', by simpa using h2, h3⟩, fun u => by simp [Tab.upd, hkk, h4 u]⟩
      simp only [Instr.findNow, hk, Instr.sameNow, beq_str, decide_eq_false (Ne.symm hkk)]
      rw [h1, show i + 1 + j = i + (j + 1) by omega]
  | [], _ :: _, i, hm, _ => by simp at hm
  | _ :: _, [], i, hm, _ => by simp at hm

theorem find_none (k : ByteArray) : ∀ (es : List MapEntry) (L : List (ByteArray × Value)) (i : Nat), es.map (fun e => (e.key, e.val)) = L.map (fun x => (Value.string x.1, x.2)) → Tab.look L k = none →
    Instr.findNow .string (.string k) es i = some none ∧ ∀ u, Tab.upd L k u = L ++ [(k, u)]
  | [], [], i, _, _ => ⟨rfl, fun u => rfl⟩
  | e :: es, (k', v') :: L, i, hm, h => by
    simp only [List.map_cons, List.cons.injEq, Prod.mk.injEq] at hm
    obtain ⟨⟨hk, hv⟩, hr⟩ := hm
    by_cases hkk : k' = k
    · subst hkk; simp [Tab.look] at h
    · simp only [Tab.look, if_neg hkk] at h
      obtain ⟨h1, h2⟩ := find_none k es L (i + 1) hr h
      exact ⟨by simp only [Instr.findNow, hk, Instr.sameNow, beq_str, decide_eq_false (Ne.symm hkk)]; exact h1, fun u => by simp [Tab.upd, hkk, h2 u]⟩
  | [], _ :: _, i, hm, _ => by simp at hm
  | _ :: _, [], i, hm, _ => by simp at hm

theorem checkKey_str (b : Bool) (k : ByteArray) (w : World) : (Instr.checkKey b 10000 9 (.string k)).run Trym.prog w = .ok () w :=
  MapKept.run_checkKey (k := .string k) Trym.underlying9 (by simp [MapKept.IsKey]) b 9999

/-- 'v, ok := m[k]', the key there. -/
theorem run_look {w : World} {b : Nat} {L : List (ByteArray × Value)} (h : IsMap w b L) {k : ByteArray} {v : Value} (hl : Tab.look L k = some v) :
    (Instr.lookup 68 (.map (some b)) (.string k) true).run Trym.prog w = .ok (.tuple #[v, .bool true]) w := by
  obtain ⟨es, clock, hb, hm⟩ := h
  obtain ⟨j, hf, _⟩ := find_some k v es.toList L 0 hm hl
  simp [Instr.lookup, run_underlying Trym.underlying68, MapKept.run_getObj_map hb, checkKey_str, Instr.findKey, run_underlying Trym.underlying9, hf]

/-- The world behind 'm[k] = v'. -/
theorem run_put {w : World} {b : Nat} {L : List (ByteArray × Value)} (h : IsMap w b L) (k : ByteArray) (v : Value) :
    ∃ w', (Instr.mapUpdate 68 (.map (some b)) (.string k) v).run Trym.prog w = .ok () w' ∧ IsMap w' b (Tab.upd L k v) ∧ w.grownBy w' (some b) := by
  obtain ⟨es, clock, hb, hm⟩ := h
  have hlt : b < w.heap.size := (Array.getElem?_eq_some_iff.1 hb).1
  have grown : ∀ o : Obj, w.grownBy { w with heap := w.heap.setIfInBounds b o } (some b) := fun o =>
    ⟨rfl, rfl, rfl, by simp, fun i _ hi => by
      show (w.heap.setIfInBounds b o)[i]? = w.heap[i]?
      rw [Array.getElem?_setIfInBounds, if_neg (fun e => hi (by rw [e]))]⟩
  have there : ∀ o : Obj, ({ w with heap := w.heap.setIfInBounds b o } : World).heap[b]? = some o := fun o => by
    show (w.heap.setIfInBounds b o)[b]? = some o
    rw [Array.getElem?_setIfInBounds, if_pos rfl, if_pos hlt]
  cases hl : Tab.look L k with
  | none =>
    obtain ⟨hf, hu⟩ := find_none k es.toList L 0 hm hl
    refine ⟨_, by simp [Instr.mapUpdate, run_underlying Trym.underlying68, MapKept.run_getObj_map hb, checkKey_str, MapKept.run_findKey Trym.underlying9 hf, MapKept.run_setObj_map _ hb]; rfl, ⟨_, _, there _, ?_⟩, grown _⟩
    rw [hu v]
    simp [hm]
  | some v0 =>
    obtain ⟨j, hf, ⟨e, he, hek⟩, hu⟩ := find_some k v0 es.toList L 0 hm hl
    rw [Nat.zero_add] at hf
    have he' : es[j]? = some e := by simpa using he
    refine ⟨_, by simp [Instr.mapUpdate, run_underlying Trym.underlying68, MapKept.run_getObj_map hb, checkKey_str, MapKept.run_findKey Trym.underlying9 hf, MapKept.run_setObj_map _ hb, he', hek, Instr.keyThatStays, Instr.sameBits, beq_str]; rfl, ⟨_, _, there _, ?_⟩, grown _⟩
    rw [hu v, List.map_set, ← hm]
    apply List.ext_getElem?
    intro i
    rw [List.getElem?_map, Array.getElem?_toList, Array.getElem?_modify, List.getElem?_set]
    by_cases hij : j = i
    · subst hij
      have hjl : j < es.size := (Array.getElem?_eq_some_iff.1 he').1
      simp [hjl]
    · simp [hij]

theorem IsMap.lt {w : World} {b : Nat} {L : List (ByteArray × Value)} (h : IsMap w b L) : b < w.heap.size := by
  obtain ⟨es, clock, hb, _⟩ := h
  exact (Array.getElem?_eq_some_iff.1 hb).1
theorem IsMap.of_block {w w' : World} {b : Nat} {L : List (ByteArray × Value)} (h : IsMap w b L) (e : w'.heap[b]? = w.heap[b]?) : IsMap w' b L := by
  obtain ⟨es, clock, hb, hm⟩ := h
  exact ⟨es, clock, e.trans hb, hm⟩
theorem IsMap.below {w w' : World} {b B : Nat} {L : List (ByteArray × Value)} (h : IsMap w b L) (hb : Below B w w') (hB : b < B) : IsMap w' b L := h.of_block (hb.block b hB)
theorem IsMap.made (w : World) : IsMap (w.alloc (.map #[] 0)) w.heap.size [] := ⟨#[], 0, (MapKept.heap_alloc w _).1, rfl⟩

/-- 'len(m)'. -/
theorem run_len {w : World} {b : Nat} {L : List (ByteArray × Value)} (h : IsMap w b L) : (Builtin.len_ #[68] 3 #[.map (some b)]).run Trym.prog w = .ok (goInt L.length) w := by
  obtain ⟨es, clock, hb, hm⟩ := h
  have hl : es.size = L.length := by
    have := congrArg List.length hm
    simpa using this
  rw [← hl]
  exact run_len_map w 68 3 b es clock rfl hb

end Go.Proofs.Qxb6609504aMods.Add
