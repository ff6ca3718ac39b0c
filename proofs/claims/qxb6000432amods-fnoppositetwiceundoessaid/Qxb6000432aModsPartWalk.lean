/-
  DERIVED. FnRanStepsPartition: the walk.
-/
import Derived.Test.Qxb6000432aModsIdx
import Derived.Test.Qxb6000432aModsBytes
namespace Go.Proofs.Qxb6000432aMods
open Go.RowKit

theorem strs_row {w : World} {g n : Nat} {S : Nat → ByteArray} (h : w.rowIs g 9 n (fun i => .string (S i))) : Strs w (some ⟨g, 0, none⟩) n S := fun _ =>
  ⟨g, 0, rfl, h.lt, fun i hi => by rw [Nat.zero_add]; exact h.cell hi⟩
theorem row_below {B : Nat} {w w' : World} {g n : Nat} {t : TypeId} {f : Nat → Value} (h : w.rowIs g t n f) (hb : Below B w w') (hg : g < B) : w'.rowIs g t n f := h.of_block (hb.block g hg)
theorem below_grown {w w' : World} (h : Below w.heap.size w w') : w.grownBy w' none := ⟨h.os, h.tape, h.output, h.size, fun k hk _ => h.block k hk⟩
theorem Grp.below {w w' : World} {base : Nat} {L : List (ByteArray × Value)} {St De : Nat → ByteArray} {k : Nat} (h : Grp w base L St De k) (hb : Below w.heap.size w w') : Grp w' base L St De k :=
  h.kept (below_grown hb) fun s v hv => by
    obtain ⟨_, _, g, hg, _⟩ := h.some_row hv
    rw [hg]; simp
theorem MapIs.below {w w' : World} {b : Nat} {L : List (ByteArray × Value)} (h : MapIs w b L) (hb : Below w.heap.size w w') : MapIs w' b L := h.of_block (hb.block b h.lt)

/-- 'cloneStrs', nil or not -/
theorem clone_any (a : Option Addr) (n cap : Nat) (S : Nat → ByteArray) (w : World) (hS : Strs w a n S) (hn : n ≤ 65536) (hnil : a = none → n = 0 ∧ cap = 0) :
    Calls Trym.prog 12 #[.slice a n cap] w fun e w' => (∃ a' c', e = .returned (.slice a' n c') ∧ Strs w' a' n S) ∧ Below w.heap.size w w' := by
  cases a with
  | none =>
    obtain ⟨rfl, rfl⟩ := hnil rfl
    refine (clone_nil w).mono ?_
    rintro e w' ⟨rfl, rfl⟩
    exact ⟨⟨none, 0, rfl, hS⟩, Below.refl _ _⟩
  | some x =>
    refine (clone_some x n cap S w hS hn).mono ?_
    rintro e w' ⟨rfl, hb, hr⟩
    exact ⟨⟨_, _, rfl, strs_row hr⟩, hb⟩

/-- the map of a task's steps, and the steps, in one world -/
structure Ran (w : World) (B L0 : Nat) (L : List (ByteArray × Value)) (sg n : Nat) (St De : Nat → ByteArray) : Prop where
  map : MapIs w B L
  grp : Grp w L0 L St De n
  row : w.rowIs sg 44 (n * 8) (stepRow St De)
theorem Ran.below {w w' : World} {B L0 sg n : Nat} {L : List (ByteArray × Value)} {St De : Nat → ByteArray} (h : Ran w B L0 L sg n St De) (hb : Below w.heap.size w w') : Ran w' B L0 L sg n St De :=
  ⟨h.map.below hb, h.grp.below hb, row_below h.row hb h.row.lt⟩

/-- what the look-up at a step's key gives -/
theorem Ran.at {w : World} {B L0 sg n : Nat} {L : List (ByteArray × Value)} {St De : Nat → ByteArray} (h : Ran w B L0 L sg n St De) (hsz : ∀ i, (De i).size ≤ maxLen) {i : Nat} (hi : i < n) (hp : isPend (St i) = false) :
    ∃ gb cap, (∀ w', Below w.heap.size w w' → (Instr.lookup 32 (.map (some B)) (.string (De i)) false).run Trym.prog w' = .ok (.slice (some ⟨gb, 0, none⟩) (idx St De (De i) n).length cap) w') ∧
      (∀ j, j < (idx St De (De i) n).length → StepAt w gb (j * 8) (nth St De (De i) n j) (St (nth St De (De i) n j)) (De (nth St De (De i) n j))) ∧ gb < w.heap.size := by
  rcases h.grp.here (De i) with ⟨_, h2⟩ | ⟨v, h1, h2, h3⟩
  · exact absurd h2 (idx_ne hi hp)
  · obtain ⟨gb, cap, rfl, _, hlt⟩ := h3.form (List.length_pos_iff.2 h2)
    refine ⟨gb, cap, fun w' hb => ?_, fun j hj => stepAt_own h3 (nth_at hj) hj, hlt⟩
    have := (h.map.below hb).look false Trym.underlying32 (info27 w') (hsz i)
    rw [h1] at this
    exact this

theorem StepAt.below {w w' : World} {b o i : Nat} {s d : ByteArray} (h : StepAt w b o i s d) {B : Nat} (hb : Below B w w') (hlt : b < B) : StepAt w' b o i s d := by
  obtain ⟨h0, h1, h2, h3, h4, h5, h6, h7⟩ := h
  exact ⟨by rw [bcell hb _ _ hlt]; exact h0, by rw [bcell hb _ _ hlt]; exact h1, by rw [bcell hb _ _ hlt]; exact h2, by rw [bcell hb _ _ hlt]; exact h3,
    by rw [bcell hb _ _ hlt]; exact h4, by rw [bcell hb _ _ hlt]; exact h5, by rw [bcell hb _ _ hlt]; exact h6, by rw [bcell hb _ _ hlt]; exact h7⟩

theorem nth_mem_lt {St De : Nat → ByteArray} {d : ByteArray} {k j : Nat} (h : j < (idx St De d k).length) : nth St De d k j < k := (nth_mem h).1
theorem nth_mem_pend {St De : Nat → ByteArray} {d : ByteArray} {k j : Nat} (h : j < (idx St De d k).length) : isPend (St (nth St De d k j)) = false := (nth_mem h).2.1
theorem nth_mem_de {St De : Nat → ByteArray} {d : ByteArray} {k j : Nat} (h : j < (idx St De d k).length) : De (nth St De d k j) = d := (nth_mem h).2.2

/-- a task with these steps and nothing else -/
def taskArr (v : Value) : Array Value :=
  #[.string ⟨#[]⟩, .string ⟨#[]⟩, .string ⟨#[]⟩, .string ⟨#[]⟩, .string ⟨#[]⟩, .string ⟨#[]⟩, .map none, .string ⟨#[]⟩, .string ⟨#[]⟩, .map none, .bool false, .string ⟨#[]⟩, .slice none 0 0, v]

set_option maxHeartbeats 1000000 in
theorem part_main (a : Option Addr) (n cap : Nat) (S : Nat → ByteArray) (b : Option Addr) (m cap' : Nat) (D : Nat → ByteArray) (w : World) (hS : Strs w a n S) (hD : Strs w b m D) (hn : n ≤ 65536) (hm : m ≤ 65536)
    (ha : a = none → n = 0 ∧ cap = 0) (hb : b = none → m = 0 ∧ cap' = 0) (hsz : ∀ i, (D i).size ≤ maxLen) :
    Calls Trym.prog 6 #[.slice a n cap, .slice b m cap'] w fun e w' => e = .returned (.bool true) ∧ Below w.heap.size w w' := by
  have H := hide (And.intro hS hD)
  have HA := hide (And.intro ha hb)
  obtain ⟨De, hDe⟩ : ∃ De : Nat → ByteArray, De = fun i => if i < m then D i else ByteArray.empty := ⟨_, rfl⟩
  have hsz' : Hid (∀ i, (De i).size ≤ maxLen) := fun i => by
    rw [hDe]
    show (if i < m then D i else ByteArray.empty).size ≤ maxLen
    split
    · exact hsz i
    · exact Nat.zero_le _
  have HDe := hide hDe
  clear hS hD ha hb hDe hsz
  go_enter Trym.func6, Trym.ntmps6
  go_wp2_with fail
  refine (bytes18 _ n cap S _ m cap' D _ H.out.1 (by unfold maxLen; omega) H.out.2 (by unfold maxLen; omega)).mono ?_
  rintro e w1 ⟨⟨x, rfl⟩, hw⟩
  subst w1
  cases x
  · go_wp2
    go_ret
    exact ⟨rfl, Below.refl _ _⟩
  go_wp2_with fail
  refine (strsBytes_any _ n cap S _ H.out.1 (by unfold maxLen; omega)).mono ?_
  rintro e w1 ⟨⟨r1, r10, r11, _, rfl⟩, hw⟩
  subst w1
  go_wp2_with fail
  refine (strsBytes_any _ m cap' D _ H.out.2 (by unfold maxLen; omega)).mono ?_
  rintro e w1 ⟨⟨r2, r20, r21, _, rfl⟩, hw⟩
  subst w1
  by_cases hr : 1048576 < r1 + r2
  · go_wp2
    go_ret
    exact ⟨rfl, Below.refl _ _⟩
  go_wp2_with fail
  refine (clone_any a n cap S _ H.out.1 hn HA.out.1).mono ?_
  rintro e w1 ⟨⟨a1, c1, rfl, hS1⟩, hb1⟩
  have H1 := hide (And.intro hS1 hb1)
  clear hS1 hb1
  go_wp2_with fail
  refine (clone_any b m cap' D _ (H.out.2.below H1.out.2) hm HA.out.2).mono ?_
  rintro e w2 ⟨⟨a2, c2, rfl, hS2⟩, hb2⟩
  have H2 := hide (And.intro (H1.out.1.below hb2) (And.intro hS2 (H1.out.2.trans (hb2.mono H1.out.2.size))))
  clear hS2 hb2 H1
  go_wp2_with fail
  refine (build_any a1 a2 n m c1 c2 S D _ H2.out.1 H2.out.2.1 hn hm De HDe.out).mono ?_
  rintro e w3 ⟨rfl, hb3, hrow3⟩
  have H3 := hide (And.intro hrow3 (H2.out.2.2.trans (hb3.mono H2.out.2.2.size)))
  have hz3 : w2.heap.size < w3.heap.size := hrow3.lt
  clear hb3 hrow3
  go_wp2_with fail
  have hc4 : (w3.alloc (.cells (taskArr (.slice (some ⟨w2.heap.size, 0, none⟩) n n)) 40)).cell? ⟨w3.heap.size, 13, none⟩ = some (.slice (some ⟨w2.heap.size, 0, none⟩) n n) := by
    simp only [World.cell?, Deep.blk_alloc_new]; rfl
  have hrow4 := H3.out.1.alloc (.cells (taskArr (.slice (some ⟨w2.heap.size, 0, none⟩) n n)) 40)
  have hbel4 : Below w.heap.size w (w3.alloc (.cells (taskArr (.slice (some ⟨w2.heap.size, 0, none⟩) n n)) 40)) := H3.out.2.alloc H3.out.2.size _
  unfold taskArr at hc4 hrow4 hbel4
  revert hc4 hrow4 hbel4
  generalize w3.alloc (.cells #[.string ⟨#[]⟩, .string ⟨#[]⟩, .string ⟨#[]⟩, .string ⟨#[]⟩, .string ⟨#[]⟩, .string ⟨#[]⟩, .map none, .string ⟨#[]⟩, .string ⟨#[]⟩, .map none, .bool false, .string ⟨#[]⟩, .slice none 0 0, .slice (some ⟨w2.heap.size, 0, none⟩) n n] 40) = w4
  intro hc4 hrow4 hbel4
  refine (zzRan_any w3.heap.size w2.heap.size n n S De w4 hc4 hrow4 (by omega) hsz'.out).mono ?_
  rintro e w5 ⟨rfl, hb5, L, hM5, hG5⟩
  have hR5 : Ran w5 w4.heap.size (w4.heap.size + 1) L w2.heap.size n S De := ⟨hM5, hG5, row_below hrow4 hb5 hrow4.lt⟩
  have H5 := hide (And.intro hR5 (hbel4.trans (hb5.mono hbel4.size)))
  clear hc4 hrow4 hbel4 hM5 hG5 hR5 hb5 H3 H2
  go_wp2_with fail
  go_loopg [7, 8, 9, 10] n (fun q x y z i wx => ∃ k : Nat, q + k = n ∧ x = .int .i64 (np S k) ∧ y = .int .i64 (nf S De k) ∧ z = .int .i64 (sumF S De n k) ∧ i = .int .i64 k ∧ Below w5.heap.size w5 wx)
  case atStart => exact ⟨0, rfl, rfl, rfl, rfl, rfl, Below.refl _ _⟩
  case round =>
    obtain ⟨k, hk, rfl, rfl, rfl, rfl, hbel⟩ := hrel
    have hR := H5.out.1.below hbel
    have b1 := np_le (St := S) k
    have b2 := nf_le S De k
    have b3 := sumF_le (St := S) (De := De) (n := n) (by omega) k
    by_cases hlt : k < n
    · obtain ⟨_, _, c2, c3, _⟩ := step_cells hR.row hlt
      have HK := hide hk
      have HB := hide hbel
      cases hp : isPend (S k) with
      | true =>
        have HP := hide hp
        have hq : ((S k).toList == [80, 69, 78, 68, 73, 78, 71]) = true := hp
        clear hk hbel hR hp c3
        go_wp2
        go_roundg (gk - 1)
        case rel => exact ⟨k + 1, by have := HK.out; omega, by rw [np_t HP.out], by rw [nf_pend HP.out], by rw [sumF_pend HP.out], by go_num, HB.out⟩
        case measure => have := HK.out; omega
      | false =>
        have HP := hide hp
        have hq : ((S k).toList == [80, 69, 78, 68, 73, 78, 71]) = false := hp
        obtain ⟨gb, gc, hlook, hat, hgb⟩ := hR.at hsz'.out hlt hp
        have hlook1 := hlook wr (Below.refl _ _)
        have hpos : 0 < (idx S De (De k) n).length := List.length_pos_iff.2 (idx_ne hlt hp)
        have hlen := idx_le S De (De k) n
        have c4 := (hat 0 hpos).1
        have hle := head_le (De := De) hlt hp
        have HE := hide (head_eq (De := De) hlt hp)
        have HS := hide (And.intro hR.row hat)
        rw [Nat.zero_mul] at c4
        clear hk hbel hR hp hlook hat
        by_cases hf : nth S De (De k) n 0 = k
        · have HF := hide (HE.out.1 hf)
          rw [hf] at c4
          clear hf hle HE
          go_wp2_with fail
          refine (sound_any gb _ gc w2.heap.size n n S De (nth S De (De k) n) (De k) wr (by omega) (by omega) HS.out.1 (fun j hj => ⟨HS.out.2 j hj, nth_mem_lt hj, nth_mem_de hj, nth_mem_pend hj⟩) (fun j hj => nth_inc hj)).mono ?_
          rintro e w6 ⟨rfl, hb6⟩
          go_wp2
          go_roundg (gk - 1)
          case rel => exact ⟨k + 1, by have := HK.out; omega, by rw [np_f HP.out]; go_num, by rw [nf_hit HP.out HF.out]; go_num, by rw [sumF_hit HP.out HF.out]; go_num, by go_num, HB.out.trans (hb6.mono HB.out.size)⟩
          case measure => have := HK.out; omega
        · have HF := hide (fun h => hf (HE.out.2 h))
          have hlt2 : nth S De (De k) n 0 < k := by omega
          clear hf hle HE
          revert c4 hlt2
          generalize nth S De (De k) n 0 = f
          intro c4 hlt2
          go_wp2
          go_roundg (gk - 1)
          case rel => exact ⟨k + 1, by have := HK.out; omega, by rw [np_f HP.out]; go_num, by rw [nf_miss HF.out], by rw [sumF_miss HF.out], by go_num, HB.out⟩
          case measure => have := HK.out; omega
    · obtain rfl : k = n := by omega
      have hlen := fun ty => hR.map.len Trym.underlying32 ty
      rw [hR.grp.len] at hlen
      rw [sumF_all]
      have HB := hide hbel
      clear hk hbel hR hlt b3
      go_wp2
      go_ret
      exact ⟨by simp, H5.out.2.trans (HB.out.mono H5.out.2.size)⟩

set_option maxHeartbeats 400000 in
theorem part_big (a : Option Addr) (n cap : Nat) (S : Nat → ByteArray) (b : Option Addr) (m cap' : Nat) (D : Nat → ByteArray) (w : World) (hS : Strs w a n S) (mS : n ≤ maxLen) (hD : Strs w b m D) (mD : m ≤ maxLen) (hbig : 65536 < n ∨ 65536 < m) :
    Calls Trym.prog 6 #[.slice a n cap, .slice b m cap'] w fun e w' => e = .returned (.bool true) ∧ Below w.heap.size w w' := by
  have H := hide (And.intro hS hD)
  clear hS hD
  go_enter Trym.func6, Trym.ntmps6
  go_wp2_with fail
  refine (bytes18 _ n cap S _ m cap' D _ H.out.1 mS H.out.2 mD).mono ?_
  rintro e w1 ⟨⟨x, rfl⟩, hw⟩
  subst w1
  cases x
  · go_wp2
    go_ret
    exact ⟨rfl, Below.refl _ _⟩
  by_cases h1 : 65536 < n
  · go_wp2
    go_ret
    exact ⟨rfl, Below.refl _ _⟩
  · have h2 : 65536 < m := by omega
    go_wp2
    go_ret
    exact ⟨rfl, Below.refl _ _⟩

theorem part_any (a : Option Addr) (n cap : Nat) (S : Nat → ByteArray) (b : Option Addr) (m cap' : Nat) (D : Nat → ByteArray) (w : World)
    (hS : Strs w a n S) (mS : n ≤ maxLen) (zS : a = none → n = 0 ∧ cap = 0) (_sS : ∀ i, (S i).size ≤ maxLen) (hD : Strs w b m D) (mD : m ≤ maxLen) (zD : b = none → m = 0 ∧ cap' = 0) (sD : ∀ i, (D i).size ≤ maxLen) :
    Calls Trym.prog 6 #[.slice a n cap, .slice b m cap'] w fun e w' => e = .returned (.bool true) ∧ Below w.heap.size w w' := by
  by_cases hbig : 65536 < n ∨ 65536 < m
  · exact part_big a n cap S b m cap' D w hS mS hD mD hbig
  · exact part_main a n cap S b m cap' D w hS hD (by omega) (by omega) zS zD sD

end Go.Proofs.Qxb6000432aMods
