/-
  DERIVED. AN ITEM IN MEMORY; '(*Item).Set': the walk.
-/
import Derived.Test.Qxb6000432aModsOppBounds
import Derived.Deep.RegionHeldLaw
namespace Go.Proofs.Qxb6000432aMods
open Go.RowKit

/-- an item's three cells -/
def itemF (id typ : ByteArray) (r : Option Nat) (j : Nat) : Value := if j = 0 then .string id else if j = 1 then .string typ else .map r

/-- a property's value: a text and a list of at most one string, in block 'lo' or later -/
def ValOk (w : World) (lo : Nat) (v : Value) : Prop :=
  ∃ (t : ByteArray) (a : Option Addr) (n c : Nat) (S : Nat → ByteArray), v = .agg #[.string t, .slice a n c, .map none] ∧ n ≤ 1 ∧
    (0 < n → ∃ lb off, a = some ⟨lb, off, none⟩ ∧ lo ≤ lb ∧ lb < w.heap.size ∧ ∀ i, i < n → w.cell? ⟨lb, off + i, none⟩ = some (.string (S i)))

/-- the properties: nil, or a map of such values -/
def PropsOk (w : World) (lo : Nat) (r : Option Nat) : Prop :=
  r = none ∨ ∃ b L, r = some b ∧ lo ≤ b ∧ MapIs w b L ∧ ∀ s v, get L s = some v → ValOk w lo v

structure ItemAt (w : World) (B ib : Nat) (id typ : ByteArray) (r : Option Nat) : Prop where
  row : w.rowIs ib 37 3 (itemF id typ r)
  lo : B ≤ ib
  props : PropsOk w (ib + 1) r

/-- a value is kept where its list's block is -/
theorem ValOk.kept {w w' : World} {lo : Nat} {v : Value} (h : ValOk w lo v) (hs : w.heap.size ≤ w'.heap.size)
    (hk : ∀ k, lo ≤ k → k < w.heap.size → (∀ es c, w.heap[k]? ≠ some (.map es c)) → w'.heap[k]? = w.heap[k]?) : ValOk w' lo v := by
  obtain ⟨t, a, n, c, S, rfl, hn, hl⟩ := h
  refine ⟨t, a, n, c, S, rfl, hn, fun h0 => ?_⟩
  obtain ⟨lb, off, rfl, h1, h2, h3⟩ := hl h0
  refine ⟨lb, off, rfl, h1, Nat.lt_of_lt_of_le h2 hs, fun i hi => ?_⟩
  have e := h3 i hi
  have hne : ∀ es c, w.heap[lb]? ≠ some (.map es c) := fun es c e' => by
    simp [World.cell?, e'] at e
  rw [World.cell?_of_block (w := w) (hk lb h1 h2 hne)]
  exact e

theorem get_nil (s : ByteArray) : get [] s = none := rfl

/-- behind the store into the map: everything fits again -/
theorem item_stored {w1 w2 : World} {B ib b : Nat} {id typ : ByteArray} {L : List (ByteArray × Value)} {name : ByteArray} {v : Value} (hrow : w1.rowIs ib 37 3 (itemF id typ (some b))) (hlo : B ≤ ib) (hb : ib + 1 ≤ b)
    (hM1 : MapIs w1 b L) (hL : ∀ s u, get L s = some u → ValOk w1 (ib + 1) u) (hv : ValOk w1 (ib + 1) v) (hM2 : MapIs w2 b (put L name v)) (hg : w1.grownBy w2 (some b)) : ItemAt w2 B ib id typ (some b) := by
  have keep : ∀ u, ValOk w1 (ib + 1) u → ValOk w2 (ib + 1) u := fun u hu => hu.kept hg.size fun k _ hlt hne => by
    refine hg.block k hlt fun e => ?_
    injection e with e
    subst e
    obtain ⟨es', c', h', _⟩ := hM1
    exact hne es' c' h'
  refine ⟨hrow.of_block (hg.block ib hrow.lt fun e => by injection e with e; omega), hlo, Or.inr ⟨b, _, rfl, hb, hM2, fun s u hu => ?_⟩⟩
  rw [get_put] at hu
  by_cases e : name = s
  · rw [if_pos e] at hu
    injection hu with hu
    subst hu
    exact keep v hv
  · rw [if_neg e] at hu
    exact keep u (hL s u hu)

theorem ValOk.alloc {w : World} {lo : Nat} {v : Value} (h : ValOk w lo v) (o : Obj) : ValOk (w.alloc o) lo v := h.kept (by simp) fun k _ hlt _ => Below.heap_alloc _ _ _ hlt
theorem ValOk.setCell {w : World} {lo : Nat} {v : Value} (h : ValOk w lo v) {a : Addr} (ha : a.block < lo) (u : Value) : ValOk (w.setCell a u) lo v :=
  h.kept (by simp [World.setCell]) fun k hk _ _ => Below.heap_setCell _ _ _ _ (by omega)
theorem info59 (w : World) : (zeroValue 59).run Trym.prog w = .ok (.agg #[.string ⟨#[]⟩, .slice none 0 0, .map none]) w := by kernel_rfl
theorem eql_map_nil (r : Option Nat) (w : World) : (binOp .eql 35 (.map r) (.map none)).run Trym.prog w = .ok (.bool r.isNone) w := run_eql_map_nil (P := Trym.prog) _ _ _ _ _ Trym.underlying35

/-- what Set leaves -/
def SetDone (w w' : World) (B ib : Nat) (id typ : ByteArray) (r : Option Nat) : Prop :=
  (∃ r', ItemAt w' B ib id typ r') ∧ Below B w w' ∧ ∀ k, k < w.heap.size → k ≠ ib → r ≠ some k → w'.heap[k]? = w.heap[k]?

set_option maxHeartbeats 1000000 in
/-- Set on an item whose properties are a map -/
theorem set_some (B ib b : Nat) (id typ name t : ByteArray) (la : Option Addr) (ln lc : Nat) (w : World) (h : ItemAt w B ib id typ (some b)) (hv : ValOk w (ib + 1) (.agg #[.string t, .slice la ln lc, .map none])) (hs : name.size ≤ maxLen) :
    Calls Trym.prog 32 #[.pointer (some ⟨ib, 0, none⟩), .string name, .agg #[.string t, .slice la ln lc, .map none]] w fun e w' => e = .returned (.tuple #[]) ∧ SetDone w w' B ib id typ (some b) := by
  obtain ⟨hrow, hlo, hp⟩ := h
  rcases hp with hp | ⟨b', L, e, hb, hM, hL⟩
  · cases hp
  injection e with e
  subst e
  have c2 : w.cell? ⟨ib, 2, none⟩ = some (.map (some b)) := hrow.cell (i := 2) (by omega)
  have hib := hrow.lt
  have hM1 : MapIs (w.alloc (.cells #[.string t, .slice la ln lc, .map none] 59)).drew b L := hM.alloc _
  obtain ⟨w2, hrun, hM2, hg2, hs2⟩ := hM1.store Trym.underlying35 hs (.agg #[.string t, .slice la ln lc, .map none])
  have HF := hide (And.intro hrow (And.intro hM1 (And.intro hL (And.intro hv (And.intro hM2 (And.intro hg2 hs2))))))
  have hnil := eql_map_nil (some b)
  clear hrow hM hM1 hL hv hM2 hg2 hs2
  go_enter Trym.func32, Trym.ntmps32
  go_wp2
  go_region
  all_goals
    go_end0
    obtain ⟨hrow, hM1, hL, hv, hM2, hg2, hs2⟩ := HF.out
    refine ⟨rfl, ⟨some b, item_stored (w1 := (w.alloc (.cells #[.string t, .slice la ln lc, .map none] 59)).drew) (hrow.alloc _) hlo hb hM1 (fun s u hu => (hL s u hu).alloc _) (hv.alloc _) hM2 hg2⟩, ?_, fun k hk hne hr => ?_⟩
    · exact (((Below.refl B w).alloc (by omega) _).drew).grown hg2 (by simp; omega) (fun j hj => by injection hj with hj; omega)
    · rw [hg2.block k (by simp; omega) (fun e => hr (by rw [← e]))]
      exact Below.heap_alloc _ _ _ hk

theorem name_wp {P : Program} {c : Code} {Q : Exit → Act → World → Prop} {a : Act} {w : World} (h : ∀ W, W = w → c.wp P Q a W) : c.wp P Q a w := h w rfl

/-- the world ahead of the store, the map being new -/
theorem set_new {w W : World} {B ib : Nat} {id typ t : ByteArray} {la : Option Addr} {ln lc : Nat} (hrow : w.rowIs ib 37 3 (itemF id typ none)) (hlo : B ≤ ib) (hv : ValOk w (ib + 1) (.agg #[.string t, .slice la ln lc, .map none]))
    (hW : W = ((w.setCell ⟨ib, 2, none⟩ (.map (some (w.heap.size + 1)))).alloc (.cells #[.string t, .slice la ln lc, .map none] 59)).alloc (.map #[] 0)) :
    W.rowIs ib 37 3 (itemF id typ (some (w.heap.size + 1))) ∧ MapIs W (w.heap.size + 1) [] ∧ ValOk W (ib + 1) (.agg #[.string t, .slice la ln lc, .map none]) ∧ Below B w W ∧ (∀ k, k < w.heap.size → k ≠ ib → W.heap[k]? = w.heap[k]?) ∧
      W.heap[w.heap.size]? = some (.cells #[.string t, .slice la ln lc, .map none] 59) ∧ W.heap.size = w.heap.size + 2 := by
  have hib := hrow.lt
  have hsz : (w.setCell ⟨ib, 2, none⟩ (.map (some (w.heap.size + 1)))).heap.size = w.heap.size := by simp [World.setCell]
  subst hW
  refine ⟨(((hrow.set 2 (.map (some (w.heap.size + 1)))).congr fun j hj => ?_).alloc _).alloc _, ?_, ((hv.setCell (Nat.lt_succ_self _) _).alloc _).alloc _, ?_, fun k hk hne => ?_, ?_, by simp [hsz]⟩
  · match j, hj with
    | 0, _ => rfl
    | 1, _ => rfl
    | 2, _ => rfl
  · have := MapIs_made ((w.setCell ⟨ib, 2, none⟩ (.map (some (w.heap.size + 1)))).alloc (.cells #[.string t, .slice la ln lc, .map none] 59))
    simpa [hsz] using this
  · exact ((((Below.refl B w).setCell hlo _).alloc (by rw [hsz]; omega) _).alloc (by simp [hsz]; omega) _)
  · rw [Below.heap_alloc _ _ _ (by simp [hsz]; omega), Below.heap_alloc _ _ _ (by rw [hsz]; exact hk), Below.heap_setCell _ _ _ _ hne]
  · rw [Below.heap_alloc _ _ _ (by simp [hsz])]
    have := Deep.blk_alloc_new (w.setCell ⟨ib, 2, none⟩ (.map (some (w.heap.size + 1)))) (.cells #[.string t, .slice la ln lc, .map none] 59)
    rw [hsz] at this
    exact this

set_option maxHeartbeats 1000000 in
/-- Set on an item whose properties are nil -/
theorem set_none (B ib : Nat) (id typ name t : ByteArray) (la : Option Addr) (ln lc : Nat) (w : World) (h : ItemAt w B ib id typ none) (hv : ValOk w (ib + 1) (.agg #[.string t, .slice la ln lc, .map none])) (hs : name.size ≤ maxLen) :
    Calls Trym.prog 32 #[.pointer (some ⟨ib, 0, none⟩), .string name, .agg #[.string t, .slice la ln lc, .map none]] w fun e w' => e = .returned (.tuple #[]) ∧ SetDone w w' B ib id typ none := by
  obtain ⟨hrow, hlo, _⟩ := h
  have c2 : w.cell? ⟨ib, 2, none⟩ = some (.map none) := hrow.cell (i := 2) (by omega)
  have f2 : w.frozen? ⟨ib, 2, none⟩ = false := hrow.frozen 2
  have hib := hrow.lt
  have hmm := @run_makeMap Trym.prog
  have hnil := eql_map_nil none
  have HF := hide (And.intro hrow hv)
  clear hrow hv
  go_enter Trym.func32, Trym.ntmps32
  go_wp2
  refine name_wp ?_
  intro W hW
  obtain ⟨hrow1, hM1, hv1, hb1, hk1, hbox, hsz1⟩ := set_new HF.out.1 hlo HF.out.2 hW
  obtain ⟨w2, hrun, hM2, hg2, hs2⟩ := MapIs.store (w := W.drew) hM1 Trym.underlying35 hs (.agg #[.string t, .slice la ln lc, .map none])
  have d2 : W.cell? ⟨ib, 2, none⟩ = some (.map (some (w.heap.size + 1))) := hrow1.cell (i := 2) (by omega)
  have e0 : W.cell? ⟨w.heap.size, 0, none⟩ = some (.string t) := by simp [World.cell?, hbox]
  have e1 : W.cell? ⟨w.heap.size, 1, none⟩ = some (.slice la ln lc) := by simp [World.cell?, hbox]
  have e2 : W.cell? ⟨w.heap.size, 2, none⟩ = some (.map none) := by simp [World.cell?, hbox]
  have HG := hide (And.intro hrow1 (And.intro hM1 (And.intro hv1 (And.intro hb1 (And.intro hk1 (And.intro hM2 (And.intro hg2 hsz1)))))))
  clear hW hrow1 hM1 hv1 hb1 hk1 hbox hM2 hg2 hs2 HF hsz1 c2 f2 hmm hnil
  go_region
  all_goals
    go_end0
    obtain ⟨hrow1, hM1, hv1, hb1, hk1, hM2, hg2, hsz1⟩ := HG.out
    refine ⟨rfl, ⟨some (w.heap.size + 1), item_stored (w1 := W.drew) hrow1 hlo (by omega) hM1 (fun s u hu => by cases hu) hv1 hM2 hg2⟩, ?_, fun k hk hne _ => ?_⟩
    · exact hb1.drew.grown hg2 (by simp; omega) (fun j hj => by injection hj with hj; omega)
    · rw [hg2.block k (by simp; omega) (fun e => by injection e with e; omega)]
      exact hk1 k hk hne

/-- Set, whatever the properties -/
theorem set_any (B ib : Nat) (r : Option Nat) (id typ name t : ByteArray) (la : Option Addr) (ln lc : Nat) (w : World) (h : ItemAt w B ib id typ r) (hv : ValOk w (ib + 1) (.agg #[.string t, .slice la ln lc, .map none])) (hs : name.size ≤ maxLen) :
    Calls Trym.prog 32 #[.pointer (some ⟨ib, 0, none⟩), .string name, .agg #[.string t, .slice la ln lc, .map none]] w fun e w' => e = .returned (.tuple #[]) ∧ SetDone w w' B ib id typ r := by
  cases r with
  | none => exact set_none B ib id typ name t la ln lc w h hv hs
  | some b => exact set_some B ib b id typ name t la ln lc w h hv hs

end Go.Proofs.Qxb6000432aMods
