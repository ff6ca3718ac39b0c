/-
  DERIVED. 'ranSteps': the walk.
-/
import Derived.Test.Qxb6000432aModsGroups
import Derived.Deep.RegionHeldLaw
namespace Go.Proofs.Qxb6000432aMods
open Go.RowKit

theorem isPend_t {s : ByteArray} (h : (!s.toList == [80, 69, 78, 68, 73, 78, 71]) = false) : isPend s = true := by simpa [isPend] using h
theorem isPend_f {s : ByteArray} (h : (!s.toList == [80, 69, 78, 68, 73, 78, 71]) = true) : isPend s = false := by simpa [isPend] using h
theorem info27 (w : World) : (zeroValue 27).run Trym.prog w = .ok (.slice none 0 0) w := by kernel_rfl

def stepArr (S De : Nat → ByteArray) (k : Nat) : Array Value :=
  #[.int .i64 k, .string ByteArray.empty, .string (S k), .string (De k), .string ByteArray.empty, .string ByteArray.empty, .string ByteArray.empty, .bool false]

/-- the cells to be appended, out of the block that the element was laid into -/
theorem step_news {W X : World} {S De : Nat → ByteArray} {k : Nat} (hX : X.heap[W.heap.size]? = some (.cells (stepArr S De k) 44)) :
    ∀ j u, (stepCells S De k)[j]? = some u → X.cell? ((⟨W.heap.size, 0, none⟩ : Addr).add j) = some u := World.news_of_block (cs := stepArr S De k) hX
theorem step_ones (S De : Nat → ByteArray) (k : Nat) : ∀ u ∈ stepCells S De k, u.oneCell' = true := by
  intro u hu
  simp only [stepCells, List.mem_cons, List.not_mem_nil, or_false] at hu
  rcases hu with rfl | rfl | rfl | rfl | rfl | rfl | rfl | rfl <;> rfl

/-- the append of one step, at a step of the region that draws -/
theorem step_append_steps {W : World} {B k : Nat} {S De : Nat → ByteArray} {v : Value} {m : Nat} {xs : List Value} (hown0 : W.ownsRow B 44 8 v m xs) (hm : m ≤ 65537) (hB : B ≤ W.heap.size)
    {ops : Array Oper} {o : Oper} {a : Act} {K : Act → World → Prop} {Q : Exit → Act → World → Prop} {E : Prop} (hgd : o.guard = none) (s x : Operand)
    (ho : o.op = .call { callee := .builtin .append, args := #[s, x], argTypes := #[27, 27] }) (hs : a.eval s = v) (hx : a.eval x = .slice (some ⟨W.heap.size, 0, none⟩) 1 1)
    (h : ∀ g cap w', w'.ownsRow B 44 8 (.slice (some ⟨g, 0, none⟩) (m + 1) cap) (m + 1) (xs ++ stepCells S De k) → (W.alloc (.cells #[.int .i64 k, .string ByteArray.empty, .string (S k), .string (De k), .string ByteArray.empty, .string ByteArray.empty, .string ByteArray.empty, .bool false] 44)).grownBy w' v.ownBlock →
      (v.ownBlock = some g ∨ g = W.heap.size + 1) → K (a.put o.dst (.slice (some ⟨g, 0, none⟩) (m + 1) cap)) w') :
    if Region.wanted o (yielded ops a.tmps) = true then Oper.wp Trym.prog o a ((W.alloc (.cells #[.int .i64 k, .string ByteArray.empty, .string (S k), .string (De k), .string ByteArray.empty, .string ByteArray.empty, .string ByteArray.empty, .bool false] 44)).drew) K Q else E := by
  obtain ⟨i0, hi, hzz⟩ := Option.map_eq_some_iff.1 info44
  simp only [Prod.mk.injEq] at hzz
  obtain ⟨hz0, hz1, hz2⟩ := hzz
  refine step_append_lies _ hgd s x 27 ho B 44 i0 (.agg zeroStep) 8 112 Trym.underlying27 hi hz0 hz1 hz2 rfl (by decide) v m xs hs (hown0.alloc _) ⟨W.heap.size, 0, none⟩ 1 1 (stepCells S De k) hx rfl
    (step_news (X := (W.alloc (.cells #[.int .i64 k, .string ByteArray.empty, .string (S k), .string (De k), .string ByteArray.empty, .string ByteArray.empty, .string ByteArray.empty, .bool false] 44)).drew) (Deep.blk_alloc_new W _)) (step_ones S De k) (by decide) (by unfold maxLen; omega) (by omega) (by simp; omega) (W.heap.size + 1) (by simp) ?_
  intro g cap w' h1 h2 h3 _
  exact h g cap w' h1 ⟨h2.os, h2.tape, h2.output, h2.size, h2.block⟩ h3

/-- behind the append: the store into the map -/
theorem ran_store {W w1 : World} {o : Obj} {B : Nat} {L : List (ByteArray × Value)} {v v' : Value} {m : Nat} {xs : List Value} {s : ByteArray} (hM : MapIs W B L) (hown0 : W.ownsRow (B + 1) 44 8 v m xs)
    (hgrow : (W.alloc o).grownBy w1 v.ownBlock) (hs : s.size ≤ maxLen) :
    ∃ w2, (Instr.mapUpdate 32 (.map (some B)) (.string s) v').run Trym.prog w1 = .ok () w2 ∧ MapIs w2 B (put L s v') ∧ w1.grownBy w2 (some B) ∧ w2.heap.size = w1.heap.size := by
  have hlt := hM.lt
  have hM1 : MapIs w1 B L := (hM.alloc o).of_block (hgrow.block B (by simp; omega) (fun e => by have := (hown0.lt B e.symm).1; omega))
  exact hM1.store Trym.underlying32 hs v'

/-- behind both: a block that is neither the row nor the map is as it was -/
theorem ran_far {W w1 w2 : World} {o : Obj} {B sb : Nat} {v : Value} (hgrow : (W.alloc o).grownBy w1 v.ownBlock) (hg2 : w1.grownBy w2 (some B))
    (hsb : sb < W.heap.size) (hB : sb ≠ B) (hv : v.ownBlock ≠ some sb) : (∀ j, w1.cell? ⟨sb, j, none⟩ = W.cell? ⟨sb, j, none⟩) ∧ (∀ j, w2.cell? ⟨sb, j, none⟩ = W.cell? ⟨sb, j, none⟩) := by
  have e1 : w1.heap[sb]? = W.heap[sb]? := (hgrow.block sb (by simp; omega) (fun e => hv e.symm)).trans (Below.heap_alloc _ _ _ hsb)
  have hs1 : W.heap.size ≤ w1.heap.size := Nat.le_trans (by simp) hgrow.size
  have e2 : w2.heap[sb]? = W.heap[sb]? := (hg2.block sb (by omega) (fun e => hB (by injection e))).trans e1
  exact ⟨fun j => World.cell?_of_block e1, fun j => World.cell?_of_block e2⟩

theorem ran_round {w W w1 w2 : World} {o : Obj} {L : List (ByteArray × Value)} {S De : Nat → ByteArray} {k g' cap' : Nat} {v : Value} (hbel : Below w.heap.size w W) (hG : Grp W (w.heap.size + 1) L S De k) (hv : (get L (De k)).getD (.slice none 0 0) = v)
    (hp : isPend (S k) = false) (hgrow : (W.alloc o).grownBy w1 v.ownBlock)
    (hown : w1.ownsRow (w.heap.size + 1) 44 8 (.slice (some ⟨g', 0, none⟩) ((idx S De (De k) k).length + 1) cap') ((idx S De (De k) k).length + 1) (grpCells S De (idx S De (De k) k) ++ stepCells S De k))
    (hat : v.ownBlock = some g' ∨ g' = W.heap.size + 1) (hg2 : w1.grownBy w2 (some w.heap.size)) :
    Below w.heap.size w w2 ∧ Grp w2 (w.heap.size + 1) (put L (De k) (.slice (some ⟨g', 0, none⟩) ((idx S De (De k) k).length + 1) cap')) S De (k + 1) := by
  subst hv
  have hgw : W.grownBy w1 ((get L (De k)).getD (.slice none 0 0)).ownBlock := (World.grownBy_alloc W o _).trans hgrow
  refine ⟨(hbel.grown hgw hbel.size fun j hj => ?_).grown hg2 (Nat.le_trans hbel.size hgw.size) fun j hj => ?_, hG.step hp (Nat.lt_succ_self _) hgw hown ?_ hg2⟩
  · have := ((hG.at (De k)).lt j hj).1
    omega
  · injection hj with hj
    omega
  · rcases hat with h | h
    · exact Or.inl h.symm
    · exact Or.inr ⟨g', rfl, by omega⟩

set_option maxHeartbeats 1000000 in
theorem ran_any (tb g n cap : Nat) (S De : Nat → ByteArray) (w : World) (hcell : w.cell? ⟨tb, 13, none⟩ = some (.slice (some ⟨g, 0, none⟩) n cap)) (hrow : w.rowIs g 44 (n * 8) (stepRow S De)) (hn : n ≤ 65537)
    (hsz : ∀ i, (De i).size ≤ maxLen) :
    Calls Trym.prog 31 #[.pointer (some ⟨tb, 0, none⟩)] w fun e w' => e = .returned (.map (some w.heap.size)) ∧ Below w.heap.size w w' ∧ ∃ L, MapIs w' w.heap.size L ∧ Grp w' (w.heap.size + 1) L S De n := by
  have hmm := @run_makeMap Trym.prog
  have HR := hide hrow
  have HZ := hide hsz
  have hg := hrow.lt
  have htb : tb < w.heap.size := World.block_lt_of_cell? w _ hcell
  clear hrow hsz
  go_enter Trym.func31, Trym.ntmps31
  go_wp2
  go_loopg [12] n (fun q i wx => ∃ (k : Nat) (L : List (ByteArray × Value)), q + k = n ∧ i = .int .i64 k ∧ Below w.heap.size w wx ∧ MapIs wx w.heap.size L ∧ Grp wx (w.heap.size + 1) L S De k)
  case atStart => exact ⟨0, [], rfl, rfl, (Below.refl _ _).alloc (Nat.le_refl _) _, MapIs_made _, Grp.zero _ _ _ _⟩
  case round =>
    obtain ⟨k, L, hk, rfl, hbel, hM, hG⟩ := hrel
    have HB := hide (And.intro hbel (And.intro hM hG))
    by_cases hlt : k < n
    · obtain ⟨c0, c1, c2, c3, c4, c5, c6, c7⟩ := step_cells HR.out hlt
      rw [← bcell hbel _ _ hg] at c0 c1 c2 c3 c4 c5 c6 c7
      have HK := hide hk
      clear hk hbel hM hG hcell hmm
      go_wp2
      · rename_i hp
        have HP := hide (isPend_f hp)
        clear hp
        obtain ⟨hbel, hM, hG⟩ := HB.out
        have hbel1 : Below w.heap.size w (wr.alloc (.cells #[.int .i64 k, .string ByteArray.empty, .string (S k), .string (De k), .string ByteArray.empty, .string ByteArray.empty, .string ByteArray.empty, .bool false] 44)) := hbel.alloc hbel.size _
        have hM1 := hM.alloc (.cells #[.int .i64 k, .string ByteArray.empty, .string (S k), .string (De k), .string ByteArray.empty, .string ByteArray.empty, .string ByteArray.empty, .bool false] 44)
        have hG1 := hG.alloc (.cells #[.int .i64 k, .string ByteArray.empty, .string (S k), .string (De k), .string ByteArray.empty, .string ByteArray.empty, .string ByteArray.empty, .bool false] 44)
        have hW1 : (wr.alloc (.cells #[.int .i64 k, .string ByteArray.empty, .string (S k), .string (De k), .string ByteArray.empty, .string ByteArray.empty, .string ByteArray.empty, .bool false] 44)).heap.size = wr.heap.size + 1 := by simp
        have hsb : (wr.alloc (.cells #[.int .i64 k, .string ByteArray.empty, .string (S k), .string (De k), .string ByteArray.empty, .string ByteArray.empty, .string ByteArray.empty, .bool false] 44)).heap[wr.heap.size]? = some (.cells #[.int .i64 k, .string ByteArray.empty, .string (S k), .string (De k), .string ByteArray.empty, .string ByteArray.empty, .string ByteArray.empty, .bool false] 44) := Deep.blk_alloc_new _ _
        have hbw : wr.heap.size ≠ w.heap.size := by have := hM.lt; omega
        have hvb : ((get L (De k)).getD (.slice none 0 0)).ownBlock ≠ some wr.heap.size := fun e => by have := ((hG.at (De k)).lt _ e).2; omega
        clear hbel hM hG HB c0 c1 c2 c3 c4 c5 c6 c7
        revert hbel1 hM1 hG1 hW1 hsb
        generalize (wr.alloc (.cells #[.int .i64 k, .string ByteArray.empty, .string (S k), .string (De k), .string ByteArray.empty, .string ByteArray.empty, .string ByteArray.empty, .bool false] 44)) = W
        intro hbel1 hM1 hG1 hW1 hsb
        have d0 : W.cell? ⟨wr.heap.size, 0, none⟩ = some (.int .i64 k) := by simp [World.cell?, hsb]
        have d1 : W.cell? ⟨wr.heap.size, 1, none⟩ = some (.string ByteArray.empty) := by simp [World.cell?, hsb]
        have d2 : W.cell? ⟨wr.heap.size, 2, none⟩ = some (.string (S k)) := by simp [World.cell?, hsb]
        have d3 : W.cell? ⟨wr.heap.size, 3, none⟩ = some (.string (De k)) := by simp [World.cell?, hsb]
        have d4 : W.cell? ⟨wr.heap.size, 4, none⟩ = some (.string ByteArray.empty) := by simp [World.cell?, hsb]
        have d5 : W.cell? ⟨wr.heap.size, 5, none⟩ = some (.string ByteArray.empty) := by simp [World.cell?, hsb]
        have d6 : W.cell? ⟨wr.heap.size, 6, none⟩ = some (.string ByteArray.empty) := by simp [World.cell?, hsb]
        have d7 : W.cell? ⟨wr.heap.size, 7, none⟩ = some (.bool false) := by simp [World.cell?, hsb]
        have hlook : ∀ w', MapIs w' w.heap.size L → (Instr.lookup 32 (.map (some w.heap.size)) (.string (De k)) false).run Trym.prog w' = .ok ((get L (De k)).getD (.slice none 0 0)) w' := fun w' h => h.look false Trym.underlying32 (info27 w') (HZ.out k)
        have hdr : MapIs W.drew w.heap.size L := hM1
        have hal : ∀ o, MapIs (W.alloc o).drew w.heap.size L := fun o => hM1.alloc o
        have hown0 := hG1.at (De k)
        revert hown0 hlook hvb
        generalize hv : (get L (De k)).getD (.slice none 0 0) = v
        intro hvb hlook hown0
        have H1 := hide (And.intro hbel1 (And.intro hG1 hv))
        have H2 := hide hown0
        have hsbB : wr.heap.size ≠ w.heap.size := hbw
        have hsbv : v.ownBlock ≠ some wr.heap.size := fun e => hvb e
        have hlen := idx_le S De (De k) k
        have HW := hide hW1
        have A3 : Hid ((idx S De (De k) k).length ≤ 65537) := by show _ ≤ _; omega
        have A5 : Hid (w.heap.size + 1 ≤ W.heap.size) := hM1.lt
        have A7 : Hid (wr.heap.size < W.heap.size) := by show _ < _; omega
        clear hbel1 hG1 hv hown0 hsb hW1
        go_region_held_law (fun w' => w'.cell? ⟨wr.heap.size, 0, none⟩ = some (.int .i64 k) ∧ w'.cell? ⟨wr.heap.size, 1, none⟩ = some (.string ByteArray.empty) ∧ w'.cell? ⟨wr.heap.size, 2, none⟩ = some (.string (S k)) ∧ w'.cell? ⟨wr.heap.size, 3, none⟩ = some (.string (De k)) ∧ w'.cell? ⟨wr.heap.size, 4, none⟩ = some (.string ByteArray.empty) ∧ w'.cell? ⟨wr.heap.size, 5, none⟩ = some (.string ByteArray.empty) ∧ w'.cell? ⟨wr.heap.size, 6, none⟩ = some (.string ByteArray.empty) ∧ w'.cell? ⟨wr.heap.size, 7, none⟩ = some (.bool false)) (go_keep)
          ((refine step_append_steps (S := S) (De := De) (k := k) H2.out A3.out A5.out (by rfl) (.tmp 25) (.tmp 27) (by rfl) (by rfl) (by rfl) ?_; intro g' cap' w1 hown hgrow hat; obtain ⟨w2, hrun, hM2, hg2, hs2⟩ := ran_store (v' := .slice (some ⟨g', 0, none⟩) ((idx S De (De k) k).length + 1) cap') hM1 H2.out hgrow (HZ.out k); have hfar := ran_far hgrow hg2 A7.out hsbB hsbv))
        all_goals
          have HF := hide (And.intro hM2 (And.intro hgrow (And.intro hown (And.intro hat hg2))))
          clear hrun hM2 hgrow hown hat hg2 hs2 hfar hlook d0 d1 d2 d3 d4 d5 d6 d7 hdr hal
          go_wp2
          go_roundg (gk - 1)
          case rel =>
            obtain ⟨hM2, hgrow, hown, hat, hg2⟩ := HF.out
            obtain ⟨r1, r2⟩ := ran_round H1.out.1 H1.out.2.1 H1.out.2.2 HP.out hgrow hown hat hg2
            exact ⟨k + 1, _, by have := HK.out; omega, by go_num, r1, hM2, r2⟩
          case measure => have := HK.out; omega
      · rename_i hp
        have HP := hide (isPend_t hp)
        clear hp
        go_roundg (gk - 1)
        case rel =>
          obtain ⟨hbel, hM, hG⟩ := HB.out
          exact ⟨k + 1, L, by have := HK.out; omega, by go_num, hbel.alloc hbel.size _, hM.alloc _, (hG.alloc _).skip HP.out⟩
        case measure => have := HK.out; omega
    · obtain rfl : k = n := by omega
      clear hbel hM hG hk hlt hcell hmm
      go_wp2
      go_ret
      obtain ⟨hbel, hM, hG⟩ := HB.out
      exact ⟨rfl, hbel, L, hM, hG⟩

set_option maxHeartbeats 400000 in
theorem zzRan_any (tb g n cap : Nat) (S De : Nat → ByteArray) (w : World) (hcell : w.cell? ⟨tb, 13, none⟩ = some (.slice (some ⟨g, 0, none⟩) n cap)) (hrow : w.rowIs g 44 (n * 8) (stepRow S De)) (hn : n ≤ 65537)
    (hsz : ∀ i, (De i).size ≤ maxLen) :
    Calls Trym.prog 19 #[.pointer (some ⟨tb, 0, none⟩)] w fun e w' => e = .returned (.map (some w.heap.size)) ∧ Below w.heap.size w w' ∧ ∃ L, MapIs w' w.heap.size L ∧ Grp w' (w.heap.size + 1) L S De n := by
  have H := hide (And.intro hcell (And.intro hrow hsz))
  clear hcell hrow hsz
  go_enter Trym.func19, Trym.ntmps19
  go_wp2_with (go_at_call 31; refine (ran_any tb g n cap S De _ H.out.1 H.out.2.1 hn H.out.2.2).mono ?_; rintro e w1 ⟨rfl, hr⟩)
  go_ret
  exact ⟨rfl, hr⟩

end Go.Proofs.Qxb6000432aMods
