/-
  DERIVED. FnRanStepsAppendOne: what lies in memory behind the two calls of ranSteps, and what the look-ups give.
-/
import Derived.Test.Qxb6000432aModsAppCallees
namespace Go.Proofs.Qxb6000432aMods
open Go.RowKit

variable {S De : Nat → ByteArray} {n N : Nat} {xs xd : ByteArray}

/-- both maps, the steps and the step x, in one world -/
structure App (w : World) (B1 B2 : Nat) (L1 L2 : List (ByteArray × Value)) (sg xb n N : Nat) (S De : Nat → ByteArray) (xs xd : ByteArray) : Prop where
  map1 : MapIs w B1 L1
  grp1 : Grp w (B1 + 1) L1 S De n
  map2 : MapIs w B2 L2
  grp2 : Grp w (B2 + 1) L2 (upd S n xs) (upd De n xd) N
  row : w.rowIs sg 44 (n * 8) (stepRow S De)
  xat : StepAt w xb 0 n xs xd
  xlt : xb < w.heap.size

theorem App.below {w w' : World} {B1 B2 : Nat} {L1 L2 : List (ByteArray × Value)} {sg xb : Nat} (h : App w B1 B2 L1 L2 sg xb n N S De xs xd) (hb : Below w.heap.size w w') : App w' B1 B2 L1 L2 sg xb n N S De xs xd :=
  ⟨h.map1.below hb, h.grp1.below hb, h.map2.below hb, h.grp2.below hb, row_below h.row hb h.row.lt, h.xat.below hb h.xlt, Nat.lt_of_lt_of_le h.xlt hb.size⟩

theorem stepAt_block {w : World} {b : Nat} {i : Nat} {s d : ByteArray} {e : Array Value} (h : w.heap[b]? = some (.cells e 44)) (he : e = #[.int .i64 i, .string ByteArray.empty, .string s, .string d, .string ByteArray.empty, .string ByteArray.empty, .string ByteArray.empty, .bool false]) :
    StepAt w b 0 i s d := by
  subst he
  refine ⟨?_, ?_, ?_, ?_, ?_, ?_, ?_, ?_⟩ <;> simp [World.cell?, h]

/-- ahead of the first call -/
theorem app_facts {w w3 wr wA : World} {sg : Nat} {xe : Array Value} {task : Array Value} {v : Value} (hN : N = n + 1) (hsg : sg < w3.heap.size)
    (hrow3 : w3.rowIs sg 44 (n * 8) (stepRow S De)) (hbel3 : Below w.heap.size w w3) (hbel : Below w3.heap.size w3 wr) (hrow : wr.rowIs w3.heap.size 44 (N * 8) (stepRowTo n S De))
    (hx : xe = #[.int .i64 n, .string ByteArray.empty, .string xs, .string xd, .string ByteArray.empty, .string ByteArray.empty, .string ByteArray.empty, .bool false]) (ht : task[13]? = some v)
    (hwA : wA = ((set8 wr w3.heap.size (n * 8) n xs xd).alloc (.cells xe 44)).alloc (.cells task 40)) :
    wA.rowIs sg 44 (n * 8) (stepRow S De) ∧ wA.rowIs w3.heap.size 44 (N * 8) (stepRow (upd S n xs) (upd De n xd)) ∧ StepAt wA wr.heap.size 0 n xs xd ∧ wA.cell? ⟨wr.heap.size + 1, 13, none⟩ = some v ∧
      Below w.heap.size w wA ∧ wr.heap.size < wA.heap.size := by
  have hs := set8_size wr w3.heap.size (n * 8) n xs xd
  have hb8 : Below w.heap.size w (set8 wr w3.heap.size (n * 8) n xs xd) := set8_below (hbel3.trans (hbel.mono hbel3.size)) hbel3.size _ _ _ _
  have hr8 := set8_last (xs := xs) (xd := xd) hN hrow
  have hs8 : (set8 wr w3.heap.size (n * 8) n xs xd).rowIs sg 44 (n * 8) (stepRow S De) := (row_below hrow3 hbel hsg).of_block (set8_block _ _ _ _ _ _ _ (by omega))
  subst hwA
  refine ⟨(hs8.alloc _).alloc _, (hr8.alloc _).alloc _, ?_, ?_, (hb8.alloc hb8.size _).alloc (Nat.le_trans hb8.size (by simp)) _, by simp [hs]; omega⟩
  · refine stepAt_block (e := xe) ?_ hx
    rw [Below.heap_alloc _ _ _ (by simp [hs])]
    rw [← hs]
    exact Deep.blk_alloc_new _ _
  · have e : (((set8 wr w3.heap.size (n * 8) n xs xd).alloc (.cells xe 44)).alloc (.cells task 40)).heap[wr.heap.size + 1]? = some (.cells task 40) := by
      have := Deep.blk_alloc_new ((set8 wr w3.heap.size (n * 8) n xs xd).alloc (.cells xe 44)) (.cells task 40)
      simpa [hs] using this
    simp [World.cell?, e, ht]

/-- behind the first call, ahead of the second -/
theorem app_second {wA w5 wB : World} {sg xg xb : Nat} {task : Array Value} {v : Value} {L1 : List (ByteArray × Value)} (hb5 : Below wA.heap.size wA w5) (hM5 : MapIs w5 wA.heap.size L1) (hG5 : Grp w5 (wA.heap.size + 1) L1 S De n)
    (rowS : wA.rowIs sg 44 (n * 8) (stepRow S De)) (rowX : wA.rowIs xg 44 (N * 8) (stepRow (upd S n xs) (upd De n xd))) (xat : StepAt wA xb 0 n xs xd) (hxb : xb < wA.heap.size) (ht : task[13]? = some v)
    (hwB : wB = w5.alloc (.cells task 40)) :
    wB.cell? ⟨w5.heap.size, 13, none⟩ = some v ∧ wB.rowIs xg 44 (N * 8) (stepRow (upd S n xs) (upd De n xd)) ∧
      ∀ w6 L2, Below wB.heap.size wB w6 → MapIs w6 wB.heap.size L2 → Grp w6 (wB.heap.size + 1) L2 (upd S n xs) (upd De n xd) N → App w6 wA.heap.size wB.heap.size L1 L2 sg xb n N S De xs xd ∧ Below wA.heap.size wA w6 := by
  have hbB : Below wA.heap.size wA wB := by rw [hwB]; exact hb5.alloc hb5.size _
  refine ⟨?_, row_below rowX hbB rowX.lt, fun w6 L2 hb6 hM6 hG6 => ?_⟩
  · rw [hwB]
    have e : (w5.alloc (.cells task 40)).heap[w5.heap.size]? = some (.cells task 40) := Deep.blk_alloc_new w5 _
    simp only [World.cell?, e]
    simpa using ht
  · have hbA6 : Below wA.heap.size wA w6 := hbB.trans (hb6.mono hbB.size)
    have m1 : MapIs wB wA.heap.size L1 := by rw [hwB]; exact hM5.alloc _
    have g1 : Grp wB (wA.heap.size + 1) L1 S De n := by rw [hwB]; exact hG5.alloc _
    exact ⟨⟨m1.below hb6, g1.below hb6, hM6, hG6, row_below rowS hbA6 rowS.lt, xat.below hbA6 hxb, Nat.lt_of_lt_of_le hxb hbA6.size⟩, hbA6⟩

/-- what an owned slice looks like -/
theorem own_shape {w : World} {base m : Nat} {v : Value} {ys : List Value} (h : w.ownsRow base 44 8 v m ys) : ∃ a cap, v = .slice a m cap ∧ (0 < m → ∃ g, a = some ⟨g, 0, none⟩) ∧ m ≤ cap := by
  rcases h.2 with ⟨rfl, rfl⟩ | ⟨g, cap, cur, rfl, _, _, hle, _⟩
  · exact ⟨none, 0, rfl, fun h => absurd h (Nat.lt_irrefl _), Nat.le_refl _⟩
  · exact ⟨_, cap, rfl, fun _ => ⟨g, rfl⟩, hle⟩

/-- two owned slices of the same steps, the second maybe longer -/
theorem same_own {w : World} {b1 b2 m m2 : Nat} {a1 a2 : Option Addr} {c1 c2 : Nat} {S' De' : Nat → ByteArray} {is js : List Nat} (h1 : w.ownsRow b1 44 8 (.slice a1 m c1) m (grpCells S De is)) (hi : is.length = m)
    (h2 : w.ownsRow b2 44 8 (.slice a2 m2 c2) m2 (grpCells S' De' js)) (hle : m ≤ m2) (hj : ∀ j, j < m → js[j]? = is[j]?) (hs : ∀ i ∈ is, S' i = S i ∧ De' i = De i) : SameSteps w a1 a2 m := by
  intro hm
  obtain ⟨x, cx, hx, _⟩ := h1.form hm
  obtain ⟨y, cy, hy, _⟩ := h2.form (by omega)
  injection hx with hx1 _ hx3
  injection hy with hy1 _ hy3
  subst hx1 hy1 hx3 hy3
  refine ⟨x, y, rfl, rfl, fun j hjm => ?_⟩
  have e : is[j]? = some is[j] := List.getElem?_eq_getElem (by omega)
  have hmem : is[j] ∈ is := List.getElem_mem _
  refine ⟨is[j], S is[j], De is[j], stepAt_own h1 e hjm, ?_⟩
  have := stepAt_own h2 ((hj j hjm).trans e) (by omega)
  rw [(hs _ hmem).1, (hs _ hmem).2] at this
  exact this

theorem idx_lt {d : ByteArray} {i : Nat} (h : i ∈ idx S De d n) : upd S n xs i = S i ∧ upd De n xd i = De i := upd_both ((mem_idx d n i).1 h).1

/-- the look-ups at a step's own key, which is not x's -/
theorem App.at {w : World} {B1 B2 : Nat} {L1 L2 : List (ByteArray × Value)} {sg xb : Nat} (h : App w B1 B2 L1 L2 sg xb n N S De xs xd) (hN : N = n + 1) (hsz : ∀ i, (De i).size ≤ maxLen) {k : Nat} (hk : k < n) (hp : isPend (S k) = false) :
    ∃ gb cap, (Instr.lookup 32 (.map (some B1)) (.string (De k)) false).run Trym.prog w = .ok (.slice (some ⟨gb, 0, none⟩) (idx S De (De k) n).length cap) w ∧
      w.cell? ⟨gb, 0, none⟩ = some (.int .i64 (nth S De (De k) n 0)) ∧
      (xd ≠ De k → ∃ gb' cap', (Instr.lookup 32 (.map (some B2)) (.string (De k)) true).run Trym.prog w = .ok (.tuple #[.slice gb' (idx S De (De k) n).length cap', .bool true]) w ∧ SameSteps w (some ⟨gb, 0, none⟩) gb' (idx S De (De k) n).length) := by
  subst hN
  rcases h.grp1.here (De k) with ⟨_, h2⟩ | ⟨v, h1, h2, h3⟩
  · exact absurd h2 (idx_ne hk hp)
  · have hpos := List.length_pos_iff.2 h2
    obtain ⟨gb, cap, rfl, _, hlt⟩ := h3.form hpos
    refine ⟨gb, cap, ?_, ?_, fun hne => ?_⟩
    · have := h.map1.look false Trym.underlying32 (info27 w) (hsz k)
      rw [h1] at this
      exact this
    · have := (stepAt_own h3 (nth_at hpos) hpos).1
      rw [Nat.zero_mul] at this
      exact this
    · rcases h.grp2.here (De k) with ⟨_, g2⟩ | ⟨v2, g1, g2, g3⟩
      · rw [idx_more_other hne] at g2; exact absurd g2 h2
      · rw [idx_more_other hne] at g3
        obtain ⟨a2, c2, rfl, _⟩ := own_shape g3
        refine ⟨a2, c2, ?_, same_own h3 rfl g3 (Nat.le_refl _) (fun _ _ => rfl) (fun i hi => idx_lt hi)⟩
        have := h.map2.look true Trym.underlying32 (info27 w) (hsz k)
        rw [g1] at this
        exact this

/-- the look-ups at x's key, x pending -/
theorem App.x_pend {w : World} {B1 B2 : Nat} {L1 L2 : List (ByteArray × Value)} {sg xb : Nat} (h : App w B1 B2 L1 L2 sg xb n N S De xs xd) (hN : N = n + 1) (hx : xd.size ≤ maxLen) (hp : isPend xs = true) :
    ∃ a1 c1 a2 c2 m ok, m ≤ n ∧ (Instr.lookup 32 (.map (some B1)) (.string xd) true).run Trym.prog w = .ok (.tuple #[.slice a1 m c1, .bool ok]) w ∧
      (Instr.lookup 32 (.map (some B2)) (.string xd) true).run Trym.prog w = .ok (.tuple #[.slice a2 m c2, .bool ok]) w ∧ SameSteps w a1 a2 m ∧ L2.length = L1.length := by
  subst hN
  have o1 := h.grp1.at xd
  have o2 := h.grp2.at xd
  rw [idx_more_pend xd hp] at o2
  obtain ⟨a1, c1, e1, _⟩ := own_shape o1
  obtain ⟨a2, c2, e2, _⟩ := own_shape o2
  have l1 := h.map1.look true Trym.underlying32 (info27 w) hx
  have l2 := h.map2.look true Trym.underlying32 (info27 w) hx
  rw [e1] at l1 o1
  rw [e2] at l2 o2
  have hok : (get L2 xd).isSome = (get L1 xd).isSome := by
    rcases h.grp1.here xd with ⟨g1, g2⟩ | ⟨v, g1, g2, _⟩ <;> rcases h.grp2.here xd with ⟨k1, k2⟩ | ⟨u, k1, k2, _⟩
    · rw [g1, k1]
    · rw [idx_more_pend xd hp] at k2; exact absurd g2 k2
    · rw [idx_more_pend xd hp] at k2; exact absurd k2 g2
    · rw [g1, k1]; rfl
  rw [hok] at l2
  exact ⟨a1, c1, a2, c2, _, _, idx_le S De xd n, l1, l2, same_own o1 rfl o2 (Nat.le_refl _) (fun _ _ => rfl) (fun i hi => idx_lt hi), by rw [h.grp2.len, h.grp1.len, nf_more_pend hp]⟩

/-- the look-ups at x's key, x not pending -/
theorem App.x_ran {w : World} {B1 B2 : Nat} {L1 L2 : List (ByteArray × Value)} {sg xb : Nat} (h : App w B1 B2 L1 L2 sg xb n N S De xs xd) (hN : N = n + 1) (hx : xd.size ≤ maxLen) (hp : isPend xs = false) :
    ∃ a1 c1 g2 c2 m ok, m ≤ n ∧ m + 1 ≤ c2 ∧ (Instr.lookup 32 (.map (some B1)) (.string xd) true).run Trym.prog w = .ok (.tuple #[.slice a1 m c1, .bool ok]) w ∧
      (Instr.lookup 32 (.map (some B2)) (.string xd) true).run Trym.prog w = .ok (.tuple #[.slice (some ⟨g2, 0, none⟩) (m + 1) c2, .bool true]) w ∧ SameSteps w a1 (some ⟨g2, 0, none⟩) m ∧ StepAt w g2 (m * 8) n xs xd ∧
      L2.length = if ok = true then L1.length else L1.length + 1 := by
  subst hN
  have o1 := h.grp1.at xd
  obtain ⟨a1, c1, e1, _⟩ := own_shape o1
  have l1 := h.map1.look true Trym.underlying32 (info27 w) hx
  rw [e1] at l1 o1
  rcases h.grp2.here xd with ⟨_, k2⟩ | ⟨u, k1, k2, k3⟩
  · rw [idx_more hp] at k2; simp at k2
  · rw [idx_more hp] at k3
    have hlen : (idx S De xd n ++ [n]).length = (idx S De xd n).length + 1 := by simp
    rw [hlen] at k3
    obtain ⟨g2, c2, rfl, _, _⟩ := k3.form (by omega)
    obtain ⟨_, _, e3, _, hcap⟩ := own_shape k3
    injection e3 with _ _ e3
    have l2 := h.map2.look true Trym.underlying32 (info27 w) hx
    rw [k1] at l2
    refine ⟨a1, c1, g2, c2, _, _, idx_le S De xd n, by omega, l1, l2, same_own o1 rfl k3 (by omega) (fun j hj => List.getElem?_append_left hj) (fun i hi => idx_lt hi), ?_, ?_⟩
    · have := stepAt_own (j := (idx S De xd n).length) (i := n) k3 (by simp) (by omega)
      rw [upd_n, upd_n] at this
      exact this
    · rw [h.grp2.len, h.grp1.len]
      rcases h.grp1.here xd with ⟨g1, g2⟩ | ⟨v, g1, g2, _⟩
      · rw [g1, nf_more_new hp g2]; rfl
      · rw [g1, nf_more_old g2]; rfl

end Go.Proofs.Qxb6000432aMods
