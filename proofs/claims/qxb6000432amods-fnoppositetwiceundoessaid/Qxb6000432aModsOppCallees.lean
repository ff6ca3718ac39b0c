/-
  DERIVED. FnOppositeTwiceUndoes: opposite, listEq, the bounds.
-/
import Derived.Test.Qxb6000432aModsAppCallees
namespace Go.Proofs.Qxb6000432aMods
open Go.RowKit

set_option maxHeartbeats 400000 in
theorem opposite_create (a1 b1 a2 b2 : ByteArray) (r1 r2 : Option Nat) (w : World) :
    Calls Trym.prog 33 #[.agg #[.string ⟨#[67, 82, 69, 65, 84, 69]⟩, .string a1, .string b1, .map r1, .string a2, .string b2, .map r2]] w fun e w' =>
      e = .returned (.agg #[.string ⟨#[68, 69, 83, 84, 82, 79, 89]⟩, .string a1, .string b1, .map r1, .string ⟨#[]⟩, .string ⟨#[]⟩, .map none]) ∧ Below w.heap.size w w' := by
  go_enter Trym.func33, Trym.ntmps33
  go_wp2
  exact bodyPost_ret (v := .agg #[.string ⟨#[68, 69, 83, 84, 82, 79, 89]⟩, .string a1, .string b1, .map r1, .string ⟨#[]⟩, .string ⟨#[]⟩, .map none]) (by simp [results, Trym.results33, go_sem]) rfl ⟨rfl, ((Below.refl _ _).alloc (Nat.le_refl _) _).alloc (by simp) _⟩

set_option maxHeartbeats 400000 in
theorem opposite_destroy (a1 b1 a2 b2 : ByteArray) (r1 r2 : Option Nat) (w : World) :
    Calls Trym.prog 33 #[.agg #[.string ⟨#[68, 69, 83, 84, 82, 79, 89]⟩, .string a1, .string b1, .map r1, .string a2, .string b2, .map r2]] w fun e w' =>
      e = .returned (.agg #[.string ⟨#[67, 82, 69, 65, 84, 69]⟩, .string a1, .string b1, .map r1, .string ⟨#[]⟩, .string ⟨#[]⟩, .map none]) ∧ Below w.heap.size w w' := by
  go_enter Trym.func33, Trym.ntmps33
  go_wp2
  exact bodyPost_ret (v := .agg #[.string ⟨#[67, 82, 69, 65, 84, 69]⟩, .string a1, .string b1, .map r1, .string ⟨#[]⟩, .string ⟨#[]⟩, .map none]) (by simp [results, Trym.results33, go_sem]) rfl ⟨rfl, ((Below.refl _ _).alloc (Nat.le_refl _) _).alloc (by simp) _⟩

set_option maxHeartbeats 400000 in
theorem opposite_other (op : ByteArray) (a1 b1 a2 b2 : ByteArray) (r1 r2 : Option Nat) (w : World) (h1 : (op.toList == [67, 82, 69, 65, 84, 69]) = false) (h2 : (op.toList == [68, 69, 83, 84, 82, 79, 89]) = false) :
    Calls Trym.prog 33 #[.agg #[.string op, .string a1, .string b1, .map r1, .string a2, .string b2, .map r2]] w fun e w' =>
      e = .returned (.agg #[.string op, .string a2, .string b2, .map r2, .string a1, .string b1, .map r1]) ∧ Below w.heap.size w w' := by
  go_enter Trym.func33, Trym.ntmps33
  go_wp2
  exact bodyPost_ret (v := .agg #[.string op, .string a2, .string b2, .map r2, .string a1, .string b1, .map r1]) (by simp [results, Trym.results33, go_sem]) rfl ⟨rfl, ((Below.refl _ _).alloc (Nat.le_refl _) _).alloc (by simp) _⟩

theorem zz_facts {w w1 : World} {A B : Array Value} {t t' : TypeId} (hb : Below ((w.alloc (.cells A t)).alloc (.cells B t')).heap.size ((w.alloc (.cells A t)).alloc (.cells B t')) w1) :
    (∀ j, w1.cell? ⟨w.heap.size + 1, j, none⟩ = B[j]?) ∧ (∀ j, w1.frozen? ⟨w.heap.size + 1, j, none⟩ = false) ∧ Below w.heap.size w w1 ∧ w.heap.size + 2 ≤ w1.heap.size := by
  have e : ((w.alloc (.cells A t)).alloc (.cells B t')).heap[w.heap.size + 1]? = some (.cells B t') := by
    have := Deep.blk_alloc_new (w.alloc (.cells A t)) (.cells B t')
    simpa using this
  have e1 := (hb.block (w.heap.size + 1) (by simp)).trans e
  refine ⟨fun j => by simp [World.cell?, e1], fun j => by simp [World.frozen?, e1], (((Below.refl _ _).alloc (Nat.le_refl _) _).alloc (by simp) _).trans (hb.mono (by simp; omega)), ?_⟩
  have := hb.size
  simp at this
  omega

set_option maxHeartbeats 400000 in
theorem zzOpposite_create (a1 b1 a2 b2 : ByteArray) (r1 r2 : Option Nat) (w : World) :
    Calls Trym.prog 27 #[.agg #[.string ⟨#[67, 82, 69, 65, 84, 69]⟩, .string a1, .string b1, .map r1, .string a2, .string b2, .map r2]] w fun e w' =>
      e = .returned (.agg #[.string ⟨#[68, 69, 83, 84, 82, 79, 89]⟩, .string a1, .string b1, .map r1, .string ⟨#[]⟩, .string ⟨#[]⟩, .map none]) ∧ Below w.heap.size w w' := by
  go_enter Trym.func27, Trym.ntmps27
  go_wp2_with fail
  refine (opposite_create _ _ _ _ _ _ _).mono ?_
  rintro e w1 ⟨rfl, hb⟩
  obtain ⟨hc, hf, hbel, hsz⟩ := zz_facts hb
  have c0 := hc 0
  have c1 := hc 1
  have c2 := hc 2
  have c3 := hc 3
  have c4 := hc 4
  have c5 := hc 5
  have c6 := hc 6
  simp at c0 c1 c2 c3 c4 c5 c6
  have HB := hide hbel
  clear hb hc hbel
  go_wp2
  exact bodyPost_ret (v := .agg #[.string ⟨#[68, 69, 83, 84, 82, 79, 89]⟩, .string a1, .string b1, .map r1, .string ⟨#[]⟩, .string ⟨#[]⟩, .map none]) (by simp [results, Trym.results27, go_sem, c0, c1, c2, c3, c4, c5, c6]) rfl ⟨rfl, ((((((HB.out.setCell (by simp) _).setCell (by simp) _).setCell (by simp) _).setCell (by simp) _).setCell (by simp) _).setCell (by simp) _).setCell (by simp) _⟩

set_option maxHeartbeats 400000 in
theorem zzOpposite_destroy (a1 b1 a2 b2 : ByteArray) (r1 r2 : Option Nat) (w : World) :
    Calls Trym.prog 27 #[.agg #[.string ⟨#[68, 69, 83, 84, 82, 79, 89]⟩, .string a1, .string b1, .map r1, .string a2, .string b2, .map r2]] w fun e w' =>
      e = .returned (.agg #[.string ⟨#[67, 82, 69, 65, 84, 69]⟩, .string a1, .string b1, .map r1, .string ⟨#[]⟩, .string ⟨#[]⟩, .map none]) ∧ Below w.heap.size w w' := by
  go_enter Trym.func27, Trym.ntmps27
  go_wp2_with fail
  refine (opposite_destroy _ _ _ _ _ _ _).mono ?_
  rintro e w1 ⟨rfl, hb⟩
  obtain ⟨hc, hf, hbel, hsz⟩ := zz_facts hb
  have c0 := hc 0
  have c1 := hc 1
  have c2 := hc 2
  have c3 := hc 3
  have c4 := hc 4
  have c5 := hc 5
  have c6 := hc 6
  simp at c0 c1 c2 c3 c4 c5 c6
  have HB := hide hbel
  clear hb hc hbel
  go_wp2
  exact bodyPost_ret (v := .agg #[.string ⟨#[67, 82, 69, 65, 84, 69]⟩, .string a1, .string b1, .map r1, .string ⟨#[]⟩, .string ⟨#[]⟩, .map none]) (by simp [results, Trym.results27, go_sem, c0, c1, c2, c3, c4, c5, c6]) rfl ⟨rfl, ((((((HB.out.setCell (by simp) _).setCell (by simp) _).setCell (by simp) _).setCell (by simp) _).setCell (by simp) _).setCell (by simp) _).setCell (by simp) _⟩

set_option maxHeartbeats 400000 in
theorem zzOpposite_other (op : ByteArray) (a1 b1 a2 b2 : ByteArray) (r1 r2 : Option Nat) (w : World) (h1 : (op.toList == [67, 82, 69, 65, 84, 69]) = false) (h2 : (op.toList == [68, 69, 83, 84, 82, 79, 89]) = false) :
    Calls Trym.prog 27 #[.agg #[.string op, .string a1, .string b1, .map r1, .string a2, .string b2, .map r2]] w fun e w' =>
      e = .returned (.agg #[.string op, .string a2, .string b2, .map r2, .string a1, .string b1, .map r1]) ∧ Below w.heap.size w w' := by
  go_enter Trym.func27, Trym.ntmps27
  go_wp2_with fail
  refine (opposite_other _ _ _ _ _ _ _ _ h1 h2).mono ?_
  rintro e w1 ⟨rfl, hb⟩
  obtain ⟨hc, hf, hbel, hsz⟩ := zz_facts hb
  have c0 := hc 0
  have c1 := hc 1
  have c2 := hc 2
  have c3 := hc 3
  have c4 := hc 4
  have c5 := hc 5
  have c6 := hc 6
  simp at c0 c1 c2 c3 c4 c5 c6
  have HB := hide hbel
  clear hb hc hbel
  go_wp2
  exact bodyPost_ret (v := .agg #[.string op, .string a2, .string b2, .map r2, .string a1, .string b1, .map r1]) (by simp [results, Trym.results27, go_sem, c0, c1, c2, c3, c4, c5, c6]) rfl ⟨rfl, ((((((HB.out.setCell (by simp) _).setCell (by simp) _).setCell (by simp) _).setCell (by simp) _).setCell (by simp) _).setCell (by simp) _).setCell (by simp) _⟩

end Go.Proofs.Qxb6000432aMods
