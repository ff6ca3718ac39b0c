/-
  DERIVED. 'propsAgree', 'itemEq' of an item with itself: the walks.
-/
import Derived.Test.Qxb6000432aModsBuild
namespace Go.Proofs.Qxb6000432aMods
open Go.RowKit

/-- one look-up in an item's properties: a text, a list, no map; the same in every later world -/
theorem PropsOk.look {w : World} {lo : Nat} {r : Option Nat} (h : PropsOk w lo r) {s : ByteArray} (hs : s.size ≤ maxLen) :
    ∃ (t : ByteArray) (a : Option Addr) (n c : Nat) (ok : Bool) (S : Nat → ByteArray), n ≤ 1 ∧ Strs w a n S ∧
      ∀ w', Below w.heap.size w w' → (Instr.lookup 35 (.map r) (.string s) true).run Trym.prog w' = .ok (.tuple #[.agg #[.string t, .slice a n c, .map none], .bool ok]) w' := by
  rcases h with rfl | ⟨b, L, rfl, _, hM, hL⟩
  · refine ⟨⟨#[]⟩, none, 0, 0, false, fun _ => ByteArray.empty, by omega, fun h => absurd h (Nat.lt_irrefl _), fun w' _ => ?_⟩
    exact Maps.look_nil (w := w') true law9 Trym.underlying35 (info59 w') (key9 hs)
  · cases hg : get L s with
    | none =>
      refine ⟨⟨#[]⟩, none, 0, 0, false, fun _ => ByteArray.empty, by omega, fun h => absurd h (Nat.lt_irrefl _), fun w' hb => ?_⟩
      have := (hM.below hb).look true Trym.underlying35 (info59 w') hs
      rw [hg] at this
      exact this
    | some v =>
      obtain ⟨t, a, n, c, S, rfl, hn, hl⟩ := hL s v hg
      refine ⟨t, a, n, c, true, S, hn, fun h0 => ?_, fun w' hb => ?_⟩
      · obtain ⟨lb, off, h1, _, h2, h3⟩ := hl h0
        exact ⟨lb, off, h1, h2, h3⟩
      · have := (hM.below hb).look true Trym.underlying35 (info59 w') hs
        rw [hg] at this
        exact this

theorem eql_map57_nil (r : Option Nat) (w : World) : (binOp .eql 57 (.map r) (.map none)).run Trym.prog w = .ok (.bool r.isNone) w := run_eql_map_nil (P := Trym.prog) _ _ _ _ _ Trym.underlying57

/-- a value laid into a block of its own, behind a draw -/
theorem laid59 {w X : World} {c : Array Value} (h : X = (w.alloc (.cells c 59)).drew) : Below w.heap.size w X ∧ X.heap[w.heap.size]? = some (.cells c 59) ∧ X.heap.size = w.heap.size + 1 := by
  subst h
  exact ⟨((Below.refl _ _).alloc (Nat.le_refl _) _).drew, Deep.blk_alloc_new _ _, by simp⟩

set_option maxHeartbeats 1000000 in
theorem agree_any (i1 y1 i2 y2 : ByteArray) (r : Option Nat) (lo : Nat) (ka : Option Addr) (n kc : Nat) (K : Nat → ByteArray) (w : World) (hp : PropsOk w lo r) (hK : Strs w ka n K) (hn : n ≤ 65536) (sK : ∀ i, (K i).size ≤ maxLen) :
    Calls Trym.prog 34 #[.agg #[.string i1, .string y1, .map r], .agg #[.string i2, .string y2, .map r], .slice ka n kc] w fun e w' => e = .returned (.bool true) ∧ Below w.heap.size w w' := by
  have H := hide (And.intro hp (And.intro hK sK))
  have hnil := eql_map57_nil none
  clear hp hK sK
  go_enter Trym.func34, Trym.ntmps34
  go_wp2
  refine name_wp ?_
  intro W0 hW0
  have hb0 : Below w.heap.size w W0 := by rw [hW0]; exact ((Below.refl _ _).alloc (Nat.le_refl _) _).alloc (by simp) _
  have x0 : W0.cell? ⟨w.heap.size, 2, none⟩ = some (.map r) ∧ W0.cell? ⟨w.heap.size + 1, 2, none⟩ = some (.map r) ∧ W0.heap.size = w.heap.size + 2 := by
    rw [hW0]
    exact ⟨by simp [go_sem], by simp [go_sem], by simp⟩
  have H0 := hide (And.intro hb0 x0)
  clear hW0 hb0 x0
  go_loopg [7] n (fun q iv wx => ∃ k : Nat, q + k = n ∧ iv = .int .i64 k ∧ Below W0.heap.size W0 wx)
  case atStart => exact ⟨0, rfl, rfl, Below.refl _ _⟩
  case round =>
    obtain ⟨k, hk, rfl, hbel⟩ := hrel
    have HB := hide hbel
    by_cases hlt : k < n
    · obtain ⟨hb0, x1, x2, hs0⟩ := H0.out
      have hbw : Below w.heap.size w wr := hb0.trans (hbel.mono hb0.size)
      obtain ⟨kb, ko, rfl, hkb, hc0⟩ := H.out.2.1.below hbw (by omega)
      have c0 := hc0 k hlt
      have c1 : wr.cell? ⟨w.heap.size, 2, none⟩ = some (.map r) := by rw [bcell hbel _ _ (by omega)]; exact x1
      have c2 : wr.cell? ⟨w.heap.size + 1, 2, none⟩ = some (.map r) := by rw [bcell hbel _ _ (by omega)]; exact x2
      obtain ⟨t, la, ln, lc, ok, S, hln, hS, hlook⟩ := (H.out.1.below hbw).look (H.out.2.2 k)
      have hl0 := hlook wr.drew (Below.refl _ _).drew
      have hl1 := fun o => hlook (wr.alloc o).drew ((Below.refl _ _).alloc (Nat.le_refl _) _).drew
      have HS := hide (And.intro hS hlook)
      have HK := hide hk
      have k0' : (0 : Int) ≤ (k : Int) := by omega
      have k1' : (k : Int) < (n : Int) := by omega
      clear hk hbel hbw hc0 hS hlook x1 x2 hb0
      go_wp2
      go_region_held (fun w' => w'.cell? ⟨kb, ko + k, none⟩ = some (.string (K k)) ∧ w'.cell? ⟨w.heap.size, 2, none⟩ = some (.map r)) (go_keep) (fail)
      all_goals
        go_wp2
        refine name_wp ?_
        intro X hX
        obtain ⟨bX, eX, sX⟩ := laid59 hX
        have x0 : X.cell? ⟨kb, ko + k, none⟩ = some (.string (K k)) := by rw [bcell bX _ _ hkb]; exact c0
        have x2 : X.cell? ⟨w.heap.size + 1, 2, none⟩ = some (.map r) := by rw [bcell bX _ _ (World.block_lt_of_cell? wr _ c2)]; exact c2
        have m0 := HS.out.2 X.drew bX.drew
        have m1 := fun o => HS.out.2 (X.alloc o).drew (bX.alloc bX.size _).drew
        have HX := hide (And.intro bX eX)
        have hxs : wr.heap.size < X.heap.size := by omega
        have v0 : X.cell? ⟨wr.heap.size, 0, none⟩ = some (.string t) := by simp [World.cell?, eX]
        have v1 : X.cell? ⟨wr.heap.size, 1, none⟩ = some (.slice la ln lc) := by simp [World.cell?, eX]
        have v2 : X.cell? ⟨wr.heap.size, 2, none⟩ = some (.map none) := by simp [World.cell?, eX]
        have va0 : ∀ o, (X.alloc o).cell? ⟨wr.heap.size, 0, none⟩ = some (.string t) := fun o => by rw [World.cell?_alloc_lt _ _ _ hxs]; exact v0
        have va1 : ∀ o, (X.alloc o).cell? ⟨wr.heap.size, 1, none⟩ = some (.slice la ln lc) := fun o => by rw [World.cell?_alloc_lt _ _ _ hxs]; exact v1
        have va2 : ∀ o, (X.alloc o).cell? ⟨wr.heap.size, 2, none⟩ = some (.map none) := fun o => by rw [World.cell?_alloc_lt _ _ _ hxs]; exact v2
        have HZ := hide sX
        clear hX c0 c1 c2 hl0 hl1 bX eX sX
        go_region_held (fun w' => w'.cell? ⟨kb, ko + k, none⟩ = some (.string (K k)) ∧ w'.cell? ⟨w.heap.size + 1, 2, none⟩ = some (.map r)) (go_keep) (fail)
        all_goals
          go_wp2_with fail
          have hbY : Below wr.heap.size wr (X.alloc (.cells #[.string t, .slice la ln lc, .map none] 59)) := HX.out.1.trans (((Below.refl _ _).alloc (Nat.le_refl _) _).mono (by omega))
          have HBY := hide hbY
          clear hbY
          refine (listEq_any la ln lc S _ (by omega) (HS.out.1.below HBY.out.drew)).mono ?_
          rintro e w1 ⟨rfl, q, rfl⟩
          go_wp2
          go_roundg (gk - 1)
          case rel => exact ⟨k + 1, by have := HK.out; omega, by go_num, below_drewN (HB.out.trans (HBY.out.mono HB.out.size)) _⟩
          case measure => have := HK.out; omega
    · go_wp2
      go_ret
      exact ⟨rfl, H0.out.1.trans (HB.out.mono H0.out.1.size)⟩

theorem PropsOk.len {w : World} {lo : Nat} {r : Option Nat} (h : PropsOk w lo r) : ∃ m : Nat, ∀ w', Below w.heap.size w w' → ∀ ty, (Builtin.len_ #[35] ty #[.map r]).run Trym.prog w' = .ok (.int .i64 m) w' := by
  rcases h with rfl | ⟨b, L, rfl, _, hM, _⟩
  · exact ⟨0, fun w' _ ty => Maps.len_nil (w := w') Trym.underlying35 ty⟩
  · exact ⟨L.length, fun w' hb ty => (hM.below hb).len Trym.underlying35 ty⟩

/-- the world behind the two boxes -/
theorem boxes37 {w W : World} {A B : Array Value} (h : W = (w.alloc (.cells A 37)).alloc (.cells B 37)) : Below w.heap.size w W ∧ W.heap[w.heap.size]? = some (.cells A 37) ∧ W.heap[w.heap.size + 1]? = some (.cells B 37) ∧ W.heap.size = w.heap.size + 2 := by
  subst h
  refine ⟨((Below.refl _ _).alloc (Nat.le_refl _) _).alloc (by simp) _, ?_, ?_, by simp⟩
  · rw [Below.heap_alloc _ _ _ (by simp)]; exact Deep.blk_alloc_new _ _
  · have := Deep.blk_alloc_new (w.alloc (.cells A 37)) (.cells B 37)
    simpa using this

set_option maxHeartbeats 1000000 in
/-- an item against itself -/
theorem itemEq_any (i y : ByteArray) (r : Option Nat) (lo : Nat) (ka : Option Addr) (n kc : Nat) (K : Nat → ByteArray) (qa : Option Addr) (m qc : Nat) (Q : Nat → ByteArray) (w : World) (hp : PropsOk w lo r)
    (hK : Strs w ka n K) (hn : n ≤ 65536) (sK : ∀ i, (K i).size ≤ maxLen) (hQ : Strs w qa m Q) (hm : m ≤ 65536) (sQ : ∀ i, (Q i).size ≤ maxLen) :
    Calls Trym.prog 28 #[.agg #[.string i, .string y, .map r], .agg #[.string i, .string y, .map r], .slice ka n kc, .slice qa m qc] w fun e w' => e = .returned (.bool true) ∧ Below w.heap.size w w' := by
  have H := hide (And.intro hp (And.intro hK (And.intro sK (And.intro hQ sQ))))
  have hnil := eql_map_nil r
  obtain ⟨q, hlen⟩ := hp.len
  have hbx : Below w.heap.size w ((w.alloc (.cells #[.string i, .string y, .map r] 37)).alloc (.cells #[.string i, .string y, .map r] 37)) := ((Below.refl _ _).alloc (Nat.le_refl _) _).alloc (by simp) _
  have hlen1 := hlen _ hbx
  clear hp hK sK hQ sQ hlen hbx
  go_enter Trym.func28, Trym.ntmps28
  go_wp2_with fail
  refine name_world ?_
  intro W hW
  obtain ⟨bW, e1, e2, sW⟩ := boxes37 hW
  clear hW hlen1
  refine (agree_any i y i y r lo ka n kc K W (H.out.1.below bW) (H.out.2.1.below bW) hn H.out.2.2.1).mono ?_
  rintro e w1 ⟨rfl, hb1⟩
  have f1 : w1.heap[w.heap.size]? = some (.cells #[.string i, .string y, .map r] 37) := (hb1.block _ (by omega)).trans e1
  have f2 : w1.heap[w.heap.size + 1]? = some (.cells #[.string i, .string y, .map r] 37) := (hb1.block _ (by omega)).trans e2
  have a0 : w1.cell? ⟨w.heap.size, 0, none⟩ = some (.string i) := by simp [World.cell?, f1]
  have a1 : w1.cell? ⟨w.heap.size, 1, none⟩ = some (.string y) := by simp [World.cell?, f1]
  have a2 : w1.cell? ⟨w.heap.size, 2, none⟩ = some (.map r) := by simp [World.cell?, f1]
  have d0 : w1.cell? ⟨w.heap.size + 1, 0, none⟩ = some (.string i) := by simp [World.cell?, f2]
  have d1 : w1.cell? ⟨w.heap.size + 1, 1, none⟩ = some (.string y) := by simp [World.cell?, f2]
  have d2 : w1.cell? ⟨w.heap.size + 1, 2, none⟩ = some (.map r) := by simp [World.cell?, f2]
  have HB := hide (bW.trans (hb1.mono bW.size))
  clear hb1 bW e1 e2 f1 f2 sW
  go_wp2_with fail
  refine (agree_any i y i y r lo qa m qc Q w1 (H.out.1.below HB.out) (H.out.2.2.2.1.below HB.out) hm H.out.2.2.2.2).mono ?_
  rintro e w2 ⟨rfl, hb2⟩
  go_wp2
  go_ret
  exact ⟨rfl, HB.out.trans (hb2.mono HB.out.size)⟩

end Go.Proofs.Qxb6000432aMods
