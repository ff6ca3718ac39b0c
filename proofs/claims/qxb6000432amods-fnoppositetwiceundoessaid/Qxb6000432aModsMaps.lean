/-
  DERIVED. A MAP KEYED BY STRINGS, AS A LIST OF ITS ENTRIES: what a look-up, a store and 'len' do, whatever the elements are.
-/
import Derived.Test.Qxb6000432aModsCommon
import Derived.Maps.Keyed
import Derived.Maps.OwnSet
namespace Go.Proofs.Qxb6000432aMods
open Go.RowKit Go.MapKept
open Go.ChangeMaps (setBlock heap_setBlock_same heap_setBlock_other modify_eq_set)
open Go.Maps (Keyed)

/-! ### the list -/
def get : List (ByteArray × Value) → ByteArray → Option Value
  | [], _ => none
  | (k, v) :: r, s => if k = s then some v else get r s
def put : List (ByteArray × Value) → ByteArray → Value → List (ByteArray × Value)
  | [], s, v => [(s, v)]
  | (k, u) :: r, s, v => if k = s then (s, v) :: r else (k, u) :: put r s v

theorem get_put (L : List (ByteArray × Value)) (s : ByteArray) (v : Value) (s' : ByteArray) : get (put L s v) s' = if s = s' then some v else get L s' := by
  induction L with
  | nil => simp [put, get]
  | cons p r ih =>
    obtain ⟨k, u⟩ := p
    simp only [put]
    by_cases h : k = s
    · subst h
      simp only [if_true, get]
      by_cases h2 : k = s'
      · simp [h2]
      · simp [h2]
    · simp only [if_neg h, get, ih]
      by_cases h2 : k = s'
      · subst h2
        simp [Ne.symm h]
      · simp [h2]
theorem length_put (L : List (ByteArray × Value)) (s : ByteArray) (v : Value) : (put L s v).length = if (get L s).isSome = true then L.length else L.length + 1 := by
  induction L with
  | nil => simp [put, get]
  | cons p r ih =>
    obtain ⟨k, u⟩ := p
    simp only [put, get]
    by_cases h : k = s
    · simp [h]
    · simp only [if_neg h, List.length_cons, ih]
      by_cases h2 : (get r s).isSome = true
      · simp [h2]
      · simp [h2]
theorem keys_put (L : List (ByteArray × Value)) (s : ByteArray) (v : Value) : ∀ p ∈ put L s v, p.1 = s ∨ p ∈ L := by
  induction L with
  | nil => intro p hp; simp [put] at hp; exact Or.inl (by rw [hp])
  | cons q r ih =>
    obtain ⟨k, u⟩ := q
    intro p hp
    simp only [put] at hp
    by_cases h : k = s
    · rw [if_pos h] at hp
      rcases List.mem_cons.1 hp with rfl | hp
      · exact Or.inl rfl
      · exact Or.inr (List.mem_cons_of_mem _ hp)
    · rw [if_neg h] at hp
      rcases List.mem_cons.1 hp with rfl | hp
      · exact Or.inr (by simp)
      · rcases ih p hp with h' | h'
        · exact Or.inl h'
        · exact Or.inr (List.mem_cons_of_mem _ h')
theorem get_none {L : List (ByteArray × Value)} {s : ByteArray} (h : ∀ p ∈ L, p.1 ≠ s) : get L s = none := by
  induction L with
  | nil => rfl
  | cons q r ih =>
    obtain ⟨k, u⟩ := q
    have := h (k, u) (by simp)
    simp only [get, if_neg this]
    exact ih fun p hp => h p (by simp [hp])
theorem get_nth : ∀ {L : List (ByteArray × Value)} {j : Nat} {s : ByteArray} {v : Value}, (L.map (·.1)).Nodup → L[j]? = some (s, v) → get L s = some v := by
  intro L
  induction L with
  | nil => intro j s v _ h; simp at h
  | cons q r ih =>
    obtain ⟨k, u⟩ := q
    intro j s v hn h
    cases j with
    | zero => simp at h; obtain ⟨rfl, rfl⟩ := h; simp [get]
    | succ j =>
      have hm : (s, v) ∈ r := List.mem_of_getElem? (by simpa using h)
      have hne : k ≠ s := by
        intro e
        subst e
        simp only [List.map_cons, List.nodup_cons] at hn
        exact hn.1 (List.mem_map.2 ⟨_, hm, rfl⟩)
      simp only [get, if_neg hne]
      exact ih (List.nodup_cons.1 hn).2 (by simpa using h)
theorem put_nth : ∀ {L : List (ByteArray × Value)} {j : Nat} {s : ByteArray} {u v : Value}, (L.map (·.1)).Nodup → L[j]? = some (s, u) → put L s v = L.set j (s, v) := by
  intro L
  induction L with
  | nil => intro j s u v _ h; simp at h
  | cons q r ih =>
    obtain ⟨k, x⟩ := q
    intro j s u v hn h
    cases j with
    | zero => simp at h; obtain ⟨rfl, rfl⟩ := h; simp [put]
    | succ j =>
      have hm : (s, u) ∈ r := List.mem_of_getElem? (by simpa using h)
      have hne : k ≠ s := by
        intro e
        subst e
        simp only [List.map_cons, List.nodup_cons] at hn
        exact hn.1 (List.mem_map.2 ⟨_, hm, rfl⟩)
      simp only [put, if_neg hne, List.set_cons_succ]
      rw [ih (List.nodup_cons.1 hn).2 (by simpa using h)]
theorem put_none {L : List (ByteArray × Value)} {s : ByteArray} {v : Value} (h : ∀ p ∈ L, p.1 ≠ s) : put L s v = L ++ [(s, v)] := by
  induction L with
  | nil => rfl
  | cons q r ih =>
    obtain ⟨k, u⟩ := q
    have := h (k, u) (by simp)
    simp only [put, if_neg this, List.cons_append]
    rw [ih fun p hp => h p (by simp [hp])]

/-! ### the block -/
/-- Block b is a map with the entries L, in the order in which they came. -/
def MapIs (w : World) (b : Nat) (L : List (ByteArray × Value)) : Prop :=
  ∃ es clock, w.heap[b]? = some (.map es clock) ∧ es.toList.map (fun e => (e.key, e.val)) = L.map (fun p => (Value.string p.1, p.2)) ∧ (∀ p ∈ L, p.1.size ≤ maxLen) ∧ (L.map (·.1)).Nodup

theorem MapIs.of_block {w w' : World} {b : Nat} {L : List (ByteArray × Value)} (h : MapIs w b L) (e : w'.heap[b]? = w.heap[b]?) : MapIs w' b L := by
  obtain ⟨es, c, hb, r⟩ := h
  exact ⟨es, c, e.trans hb, r⟩
theorem MapIs.lt {w : World} {b : Nat} {L : List (ByteArray × Value)} (h : MapIs w b L) : b < w.heap.size := by
  obtain ⟨es, c, hb, r⟩ := h
  exact (Array.getElem?_eq_some_iff.1 hb).1
theorem MapIs.alloc {w : World} {b : Nat} {L : List (ByteArray × Value)} (h : MapIs w b L) (o : Obj) : MapIs (w.alloc o) b L := h.of_block (Below.heap_alloc _ _ _ h.lt)
theorem MapIs_made (w : World) : MapIs (w.alloc (.map #[] 0)) w.heap.size [] := ⟨#[], 0, (MapKept.heap_alloc w _).1, by simp, by simp, by simp⟩

theorem law9 : Keyed Trym.prog 9 := Maps.string_keyed Trym.underlying9
theorem key9 {s : ByteArray} (hs : s.size ≤ maxLen) : keyOf Trym.prog 9 (.string s) = some (.string s.data.toList) := WideMaps.keyOf_string_mk Trym.underlying9 hs

theorem entry_at {es : Array MapEntry} {L : List (ByteArray × Value)} (hL : es.toList.map (fun e => (e.key, e.val)) = L.map (fun p => (Value.string p.1, p.2))) {j : Nat} {e : MapEntry} (h : es.toList[j]? = some e) :
    ∃ s, L[j]? = some (s, e.val) ∧ e.key = .string s := by
  have h1 : (es.toList.map (fun e => (e.key, e.val)))[j]? = some (e.key, e.val) := by rw [List.getElem?_map, h]; rfl
  rw [hL, List.getElem?_map] at h1
  obtain ⟨p, hp, hq⟩ := Option.map_eq_some_iff.1 h1
  simp only [Prod.mk.injEq] at hq
  exact ⟨p.1, by rw [hp, ← hq.2], hq.1.symm⟩
theorem entry_mem {es : Array MapEntry} {L : List (ByteArray × Value)} (hL : es.toList.map (fun e => (e.key, e.val)) = L.map (fun p => (Value.string p.1, p.2))) {p : ByteArray × Value} (h : p ∈ L) :
    ∃ e ∈ es.toList, e.key = .string p.1 := by
  have h1 : (Value.string p.1, p.2) ∈ L.map (fun p => (Value.string p.1, p.2)) := List.mem_map.2 ⟨p, h, rfl⟩
  rw [← hL] at h1
  obtain ⟨e, he, hq⟩ := List.mem_map.1 h1
  simp only [Prod.mk.injEq] at hq
  exact ⟨e, he, hq.1⟩
theorem entry_keys {es : Array MapEntry} {L : List (ByteArray × Value)} (hL : es.toList.map (fun e => (e.key, e.val)) = L.map (fun p => (Value.string p.1, p.2))) (hs : ∀ p ∈ L, p.1.size ≤ maxLen) :
    ∀ e ∈ es.toList, ∃ l, keyOf Trym.prog 9 e.key = some l := by
  intro e he
  obtain ⟨j, hj⟩ := List.getElem?_of_mem he
  obtain ⟨s, h1, h2⟩ := entry_at hL hj
  exact ⟨_, by rw [h2]; exact key9 (hs _ (List.mem_of_getElem? h1))⟩

/-- the look-up -/
theorem MapIs.look {w : World} {b : Nat} {L : List (ByteArray × Value)} (h : MapIs w b L) (c : Bool) {t E : TypeId} (ht : Trym.prog.underlying t = some (.map 9 E)) {z : Value} (hz : (zeroValue E).run Trym.prog w = .ok z w) {s : ByteArray} (hs : s.size ≤ maxLen) :
    (Instr.lookup t (.map (some b)) (.string s) c).run Trym.prog w = .ok (if c then .tuple #[(get L s).getD z, .bool (get L s).isSome] else (get L s).getD z) w := by
  obtain ⟨es, clock, hb, hL, hsz, hnd⟩ := h
  rcases law9.find w (key9 hs) es.toList (entry_keys hL hsz) with ⟨h1, h2⟩ | ⟨j, e0, h1, h2, h3⟩
  · have hn : get L s = none := get_none fun p hp e => by
      obtain ⟨x, hx, hk⟩ := entry_mem hL hp
      exact h2 x hx (by rw [hk, e])
    rw [hn]
    simp [Instr.lookup, run_underlying ht, MapKept.run_getObj_map hb, law9.check w _ (key9 hs), h1, hz, Result.andThen]
  · obtain ⟨s', g1, g2⟩ := entry_at hL h2
    rw [h3] at g2
    injection g2 with g2
    subst g2
    rw [get_nth hnd g1]
    simp [Instr.lookup, run_underlying ht, MapKept.run_getObj_map hb, law9.check w _ (key9 hs), h1, Result.andThen]

/-- the store -/
theorem MapIs.store {w : World} {b : Nat} {L : List (ByteArray × Value)} (h : MapIs w b L) {t E : TypeId} (ht : Trym.prog.underlying t = some (.map 9 E)) {s : ByteArray} (hs : s.size ≤ maxLen) (v : Value) :
    ∃ w', (Instr.mapUpdate t (.map (some b)) (.string s) v).run Trym.prog w = .ok () w' ∧ MapIs w' b (put L s v) ∧ w.grownBy w' (some b) ∧ w'.heap.size = w.heap.size := by
  obtain ⟨es, clock, hb, hL, hsz, hnd⟩ := h
  have hgr : ∀ es' clock', w.grownBy (setBlock w b (.map es' clock')) (some b) := fun es' clock' => ⟨rfl, rfl, rfl, by simp [setBlock], fun i _ hi => heap_setBlock_other hb _ (fun e1 => hi (by rw [e1]))⟩
  have hszn : ∀ p ∈ put L s v, p.1.size ≤ maxLen := fun p hp => by
    rcases keys_put L s v p hp with e | e
    · rw [e]; exact hs
    · exact hsz p e
  rcases law9.find w (key9 hs) es.toList (entry_keys hL hsz) with ⟨h1, h2⟩ | ⟨j, e0, h1, h2, h3⟩
  · have hn : ∀ p ∈ L, p.1 ≠ s := fun p hp e => by
      obtain ⟨x, hx, hk⟩ := entry_mem hL hp
      exact h2 x hx (by rw [hk, e])
    refine ⟨setBlock w b (.map (es.push ⟨.string s, v, clock⟩) (clock + 1)), ?_, ⟨_, _, heap_setBlock_same hb _, ?_, hszn, ?_⟩, hgr _ _, by simp [setBlock]⟩
    · simp [Instr.mapUpdate, run_underlying ht, MapKept.run_getObj_map hb, law9.check w false (key9 hs), h1, MapKept.run_setObj_map _ hb, Result.andThen, setBlock]
    · rw [put_none hn, Array.toList_push, List.map_append, List.map_append, hL]; rfl
    · rw [put_none hn, List.map_append, List.nodup_append]
      refine ⟨hnd, by simp, fun a ha c hc => ?_⟩
      obtain ⟨p, hp, rfl⟩ := List.mem_map.1 ha
      simp at hc
      rw [hc]; exact hn p hp
  · obtain ⟨s', g1, g2⟩ := entry_at hL h2
    rw [h3] at g2
    injection g2 with g2
    subst g2
    have hj : es[j]? = some e0 := by simpa using h2
    refine ⟨setBlock w b (.map (es.modify j (fun e' => { e' with key := .string s, val := v })) clock), ?_, ⟨_, _, heap_setBlock_same hb _, ?_, hszn, ?_⟩, hgr _ _, by simp [setBlock]⟩
    · simp [Instr.mapUpdate, run_underlying ht, MapKept.run_getObj_map hb, law9.check w false (key9 hs), h1, hj, h3, law9.stays w (key9 hs), MapKept.run_setObj_map _ hb, Result.andThen, setBlock]
    · rw [Array.toList_modify, modify_eq_set _ _ _ _ h2, List.map_set, hL, put_nth hnd g1, List.map_set]
    · rw [put_nth hnd g1, List.map_set]
      have : (L.map (·.1)).set j s = L.map (·.1) := by
        apply List.ext_getElem?
        intro i
        rw [List.getElem?_set]
        by_cases e : j = i
        · subst e
          have hlt : j < (L.map (·.1)).length := by simpa using (List.getElem?_eq_some_iff.1 g1).1
          rw [if_pos rfl, if_pos hlt, List.getElem?_map, g1]; rfl
        · rw [if_neg e]
      rw [this]; exact hnd

theorem MapIs.len {w : World} {b : Nat} {L : List (ByteArray × Value)} (h : MapIs w b L) {t E : TypeId} (ht : Trym.prog.underlying t = some (.map 9 E)) (ty : TypeId) :
    (Builtin.len_ #[t] ty #[.map (some b)]).run Trym.prog w = .ok (.int .i64 L.length) w := by
  obtain ⟨es, clock, hb, hL, _⟩ := h
  have : es.size = L.length := by have := congrArg List.length hL; simpa using this
  simp [Builtin.len_, run_underlying ht, MapKept.run_getObj_map hb, goInt, Result.andThen, this]

end Go.Proofs.Qxb6000432aMods
