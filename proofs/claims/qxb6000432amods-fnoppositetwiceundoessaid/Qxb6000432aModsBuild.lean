/-
  DERIVED. 'buildItem': the walk.
-/
import Derived.Test.Qxb6000432aModsItems
namespace Go.Proofs.Qxb6000432aMods
open Go.RowKit

theorem strs_cell {w w0 wr : World} {a : Option Addr} {n : Nat} {S : Nat → ByteArray} (h : Strs w a n S) (h0 : Below w.heap.size w w0) (hr : Below (w.heap.size + 1) w0 wr) {k : Nat} (hk : k < n) :
    ∃ b off, a = some ⟨b, off, none⟩ ∧ b < w.heap.size ∧ wr.cell? ⟨b, off + k, none⟩ = some (.string (S k)) := by
  obtain ⟨b, off, ha, hlt, hc⟩ := h (by omega)
  exact ⟨b, off, ha, hlt, by rw [bcell hr _ _ (by omega), bcell h0 _ _ hlt]; exact hc k hk⟩

/-- the world ahead of the loop -/
theorem build_start {w W : World} {id typ : ByteArray} (hW : W = (w.alloc (.cells #[.string ⟨#[]⟩, .string ⟨#[]⟩, .map none] 37)).alloc (.cells #[.string id, .string typ, .map none] 37)) :
    Below w.heap.size w W ∧ ItemAt W (w.heap.size + 1) (w.heap.size + 1) id typ none ∧ W.rowIs w.heap.size 37 3 (itemF ⟨#[]⟩ ⟨#[]⟩ none) ∧ W.heap.size = w.heap.size + 2 := by
  subst hW
  have e : ((w.alloc (.cells #[.string ⟨#[]⟩, .string ⟨#[]⟩, .map none] 37)).alloc (.cells #[.string id, .string typ, .map none] 37)).rowIs (w.heap.size + 1) 37 3 (itemF id typ none) := by
    have := World.rowIs_alloc (w.alloc (.cells #[.string ⟨#[]⟩, .string ⟨#[]⟩, .map none] 37)) #[.string id, .string typ, .map none] 37 (itemF id typ none) (fun i hi => by
      match i, hi with
      | 0, _ => rfl
      | 1, _ => rfl
      | 2, _ => rfl)
    simpa using this
  have e0 : (w.alloc (.cells #[.string ⟨#[]⟩, .string ⟨#[]⟩, .map none] 37)).rowIs w.heap.size 37 3 (itemF ⟨#[]⟩ ⟨#[]⟩ none) :=
    World.rowIs_alloc w #[.string ⟨#[]⟩, .string ⟨#[]⟩, .map none] 37 _ (fun i hi => by
      match i, hi with
      | 0, _ => rfl
      | 1, _ => rfl
      | 2, _ => rfl)
  exact ⟨((Below.refl _ _).alloc (Nat.le_refl _) _).alloc (by simp) _, ⟨e, Nat.le_refl _, Or.inl rfl⟩, e0.alloc _, by simp⟩

theorem PropsOk.alloc {w : World} {lo : Nat} {r : Option Nat} (h : PropsOk w lo r) (o : Obj) : PropsOk (w.alloc o) lo r := by
  rcases h with h | ⟨b, L, h1, h2, h3, h4⟩
  · exact Or.inl h
  · exact Or.inr ⟨b, L, h1, h2, h3.alloc o, fun s v hv => (h4 s v hv).alloc o⟩
theorem PropsOk.setCell {w : World} {lo : Nat} {r : Option Nat} (h : PropsOk w lo r) {a : Addr} (ha : a.block < lo) (u : Value) : PropsOk (w.setCell a u) lo r := by
  rcases h with h | ⟨b, L, h1, h2, h3, h4⟩
  · exact Or.inl h
  · exact Or.inr ⟨b, L, h1, h2, h3.of_block (Below.heap_setCell _ _ _ _ (by omega)), fun s v hv => (h4 s v hv).setCell ha u⟩
theorem PropsOk.below {w w' : World} {lo : Nat} {r : Option Nat} (h : PropsOk w lo r) (hb : Below w.heap.size w w') : PropsOk w' lo r := by
  rcases h with h | ⟨b, L, h1, h2, h3, h4⟩
  · exact Or.inl h
  · exact Or.inr ⟨b, L, h1, h2, h3.below hb, fun s v hv => (h4 s v hv).kept hb.size fun k _ hlt _ => hb.block k hlt⟩
theorem ItemAt.alloc {w : World} {B ib : Nat} {id typ : ByteArray} {r : Option Nat} (h : ItemAt w B ib id typ r) (o : Obj) : ItemAt (w.alloc o) B ib id typ r := ⟨h.row.alloc o, h.lo, h.props.alloc o⟩
theorem ItemAt.drew {w : World} {B ib : Nat} {id typ : ByteArray} {r : Option Nat} (h : ItemAt w B ib id typ r) : ItemAt w.drew B ib id typ r := ⟨h.row, h.lo, h.props⟩
theorem ValOk.drew {w : World} {lo : Nat} {v : Value} (h : ValOk w lo v) : ValOk w.drew lo v := h

/-- the world ahead of a round's Set: the value laid, its list laid behind it or none -/
theorem val_nil (w : World) (lo : Nat) (t : ByteArray) : ValOk w lo (.agg #[.string t, .slice none 0 0, .map none]) := ⟨t, none, 0, 0, fun _ => ByteArray.empty, rfl, by omega, fun h => absurd h (Nat.lt_irrefl _)⟩
theorem val_one {w : World} {lo lb : Nat} {t s : ByteArray} {e : TypeId} (hlo : lo ≤ lb) (h : w.heap[lb]? = some (.cells #[.string s] e)) : ValOk w lo (.agg #[.string t, .slice (some ⟨lb, 0, none⟩) 1 1, .map none]) := by
  refine ⟨t, _, 1, 1, fun _ => s, rfl, by omega, fun _ => ⟨lb, 0, rfl, hlo, (Array.getElem?_eq_some_iff.1 h).1, fun i hi => ?_⟩⟩
  obtain rfl : i = 0 := by omega
  simp [World.cell?, h]

/-- ahead of a round's Set -/
structure Ready (W wr W0 : World) (B : Nat) (id typ : ByteArray) (r : Option Nat) (t : ByteArray) (a : Option Addr) (n c : Nat) : Prop where
  box : W.heap[wr.heap.size]? = some (.cells #[.string t, .slice a n c, .map none] 59)
  item : ItemAt W B B id typ r
  val : ValOk W (B + 1) (.agg #[.string t, .slice a n c, .map none])
  bel : Below B W0 W
  lt : wr.heap.size < W.heap.size
  old : ∀ k, k < wr.heap.size → W.heap[k]? = wr.heap[k]?
  rne : r ≠ some wr.heap.size
  rlo : ∀ k, k ≤ B → r ≠ some k

theorem rne_of {wr : World} {B : Nat} {id typ : ByteArray} {r : Option Nat} (h : ItemAt wr B B id typ r) : r ≠ some wr.heap.size ∧ ∀ k, k ≤ B → r ≠ some k := by
  rcases h.props with rfl | ⟨b, L, rfl, h1, h2, _⟩
  · exact ⟨by simp, by simp⟩
  · have := h2.lt
    exact ⟨fun e => (by injection e with e; omega), fun k hk e => (by injection e with e; omega)⟩

theorem ready_plain {W wr W0 : World} {B : Nat} {id typ : ByteArray} {r : Option Nat} {t : ByteArray} (hbel : Below B W0 wr) (hit : ItemAt wr B B id typ r) (hB : B ≤ wr.heap.size)
    (hW : W = wr.alloc (.cells #[.string t, .slice none 0 0, .map none] 59)) : Ready W wr W0 B id typ r t none 0 0 := by
  subst hW
  exact ⟨Deep.blk_alloc_new _ _, hit.alloc _, val_nil _ _ _, hbel.alloc hB _, by simp, fun k hk => Below.heap_alloc _ _ _ hk, (rne_of hit).1, (rne_of hit).2⟩
theorem ready_list {W wr W0 : World} {B : Nat} {id typ : ByteArray} {r : Option Nat} {t s : ByteArray} (hbel : Below B W0 wr) (hit : ItemAt wr B B id typ r) (hB : B + 1 ≤ wr.heap.size)
    (hW : W = (wr.alloc (.cells #[.string t, .slice (some ⟨wr.heap.size + 1, 0, none⟩) 1 1, .map none] 59)).alloc (.cells #[.string s] 9)) : Ready W wr W0 B id typ r t (some ⟨wr.heap.size + 1, 0, none⟩) 1 1 := by
  subst hW
  have e : ((wr.alloc (.cells #[.string t, .slice (some ⟨wr.heap.size + 1, 0, none⟩) 1 1, .map none] 59)).alloc (.cells #[.string s] 9)).heap[wr.heap.size + 1]? = some (.cells #[.string s] 9) := by
    have := Deep.blk_alloc_new (wr.alloc (.cells #[.string t, .slice (some ⟨wr.heap.size + 1, 0, none⟩) 1 1, .map none] 59)) (.cells #[.string s] 9)
    simpa using this
  refine ⟨?_, (hit.alloc _).alloc _, val_one (by omega) e, (hbel.alloc (by omega) _).alloc (by simp; omega) _, by simp; omega, fun k hk => ?_, (rne_of hit).1, (rne_of hit).2⟩
  · rw [Below.heap_alloc _ _ _ (by simp)]
    exact Deep.blk_alloc_new _ _
  · rw [Below.heap_alloc _ _ _ (by simp; omega), Below.heap_alloc _ _ _ hk]

/-- behind Set a block that is neither the item's nor the map's is as it was -/
theorem set_far {W w1 : World} {B ib : Nat} {id typ : ByteArray} {r : Option Nat} (hd : SetDone W.drew w1 B ib id typ r) {k : Nat} (hk : k < W.heap.size) (hne : k ≠ ib) (hr : r ≠ some k) : ∀ j, w1.cell? ⟨k, j, none⟩ = W.cell? ⟨k, j, none⟩ :=
  fun _ => World.cell?_of_block (w := W) (hd.2.2 k hk hne hr)

set_option maxHeartbeats 1000000 in
theorem item_any (id typ : ByteArray) (ka : Option Addr) (n kc : Nat) (K : Nat → ByteArray) (ta : Option Addr) (nt tc : Nat) (T : Nat → ByteArray) (la : Option Addr) (nl lc : Nat) (Ls : Nat → ByteArray) (w : World)
    (hK : Strs w ka n K) (hT : Strs w ta nt T) (hL : Strs w la nl Ls) (hn : n ≤ 65536) (sK : ∀ i, (K i).size ≤ maxLen) :
    Calls Trym.prog 26 #[.string id, .string typ, .slice ka n kc, .slice ta nt tc, .slice la nl lc] w fun e w' => (∃ r, e = .returned (.agg #[.string id, .string typ, .map r]) ∧ PropsOk w' (w.heap.size + 2) r) ∧ Below w.heap.size w w' := by
  have H := hide (And.intro hK (And.intro hT (And.intro hL sK)))
  clear hK hT hL sK
  go_enter Trym.func26, Trym.ntmps26
  go_wp2
  refine name_wp ?_
  intro W0 hW0
  obtain ⟨hb0, hi0, hr0, hs0⟩ := build_start hW0
  have H0 := hide (And.intro hb0 (And.intro hi0 hr0))
  clear hW0 hb0 hi0 hr0
  go_loopg [12] n (fun q iv wx => ∃ (k : Nat) (r : Option Nat), q + k = n ∧ iv = .int .i64 k ∧ Below (w.heap.size + 1) W0 wx ∧ ItemAt wx (w.heap.size + 1) (w.heap.size + 1) id typ r)
  case atStart => exact ⟨0, none, rfl, rfl, Below.refl _ _, H0.out.2.1⟩
  case round =>
    obtain ⟨k, r, hk, rfl, hbel, hit⟩ := hrel
    have HB := hide (And.intro hbel hit)
    by_cases hlt : k < n
    · obtain ⟨kb, ko, rfl, hkb, c0⟩ := strs_cell H.out.1 H0.out.1 hbel hlt
      have hws : w.heap.size + 2 ≤ wr.heap.size := by have := hbel.size; omega
      have HK := hide hk
      clear hk
      by_cases h1 : k < nt
      · obtain ⟨tb, to, rfl, htb, c1⟩ := strs_cell H.out.2.1 H0.out.1 hbel h1
        have htb' : tb < wr.heap.size := by omega
        have hta : ∀ o, (wr.alloc o).cell? ⟨tb, to + k, none⟩ = some (.string (T k)) := fun o => by rw [World.cell?_alloc_lt _ _ _ htb']; exact c1
        by_cases h2 : k < nl
        · obtain ⟨lb, lo, rfl, hlb, c2⟩ := strs_cell H.out.2.2.1 H0.out.1 hbel h2
          have hlb' : lb < wr.heap.size := by omega
          have hla : ∀ o, (wr.alloc o).cell? ⟨lb, lo + k, none⟩ = some (.string (Ls k)) := fun o => by rw [World.cell?_alloc_lt _ _ _ hlb']; exact c2
          clear hbel hit
          go_wp2
          refine name_wp ?_
          intro W hW
          obtain ⟨box, item, val, bel, ltw, old, rne, rlo⟩ := ready_list HB.out.1 HB.out.2 (by omega) hW
          have hk0 : W.cell? ⟨kb, ko + k, none⟩ = some (.string (K k)) := by rw [World.cell?_of_block (w := wr) (old kb (by omega))]; exact c0
          have e0 : W.cell? ⟨wr.heap.size, 0, none⟩ = some (.string (T k)) := by simp [World.cell?, box]
          have e1 : W.cell? ⟨wr.heap.size, 1, none⟩ = some (.slice (some ⟨wr.heap.size + 1, 0, none⟩) 1 1) := by simp [World.cell?, box]
          have e2 : W.cell? ⟨wr.heap.size, 2, none⟩ = some (.map none) := by simp [World.cell?, box]
          have HR := hide (And.intro item (And.intro val bel))
          have r1 : kb ≠ w.heap.size + 1 := by omega
          have r2 : r ≠ some kb := rlo kb (by omega)
          have r3 : wr.heap.size ≠ w.heap.size + 1 := by omega
          have r4 : kb < W.heap.size := by omega
          clear hW item val bel box old c0 hta hla c1 c2
          have k0' : (0 : Int) ≤ (k : Int) := by omega
          have k1' : (k : Int) < (n : Int) := by omega
          go_region_held (fun w' => w'.cell? ⟨kb, ko + k, none⟩ = some (.string (K k)) ∧ w'.cell? ⟨wr.heap.size, 0, none⟩ = some (.string (T k)) ∧ w'.cell? ⟨wr.heap.size, 1, none⟩ = some (.slice (some ⟨wr.heap.size + 1, 0, none⟩) 1 1) ∧ w'.cell? ⟨wr.heap.size, 2, none⟩ = some (.map none)) (go_keep)
            (first | (go_at_call 32; refine (set_any (w.heap.size + 1) (w.heap.size + 1) r id typ (K k) (T k) (some ⟨wr.heap.size + 1, 0, none⟩) 1 1 _ HR.out.1.drew HR.out.2.1.drew (H.out.2.2.2 k)).mono ?_; rintro e w1 ⟨rfl, hd⟩; have hf1 := set_far hd r4 r1 r2; have hf2 := set_far hd ltw r3 rne))
          have HD := hide hd
          clear hd hf1 hf2 hk0 e0 e1 e2
          go_wp2
          go_roundg (gk - 1)
          case rel =>
            obtain ⟨r', hr'⟩ := HD.out.1
            exact ⟨k + 1, r', by have := HK.out; omega, by go_num, HR.out.2.2.drew.trans HD.out.2.1, hr'⟩
          case measure => have := HK.out; omega
        · clear hbel hit
          go_wp2
          refine name_wp ?_
          intro W hW
          obtain ⟨box, item, val, bel, ltw, old, rne, rlo⟩ := ready_plain HB.out.1 HB.out.2 (by omega) hW
          have hk0 : W.cell? ⟨kb, ko + k, none⟩ = some (.string (K k)) := by rw [World.cell?_of_block (w := wr) (old kb (by omega))]; exact c0
          have e0 : W.cell? ⟨wr.heap.size, 0, none⟩ = some (.string (T k)) := by simp [World.cell?, box]
          have e1 : W.cell? ⟨wr.heap.size, 1, none⟩ = some (.slice none 0 0) := by simp [World.cell?, box]
          have e2 : W.cell? ⟨wr.heap.size, 2, none⟩ = some (.map none) := by simp [World.cell?, box]
          have HR := hide (And.intro item (And.intro val bel))
          have r1 : kb ≠ w.heap.size + 1 := by omega
          have r2 : r ≠ some kb := rlo kb (by omega)
          have r3 : wr.heap.size ≠ w.heap.size + 1 := by omega
          have r4 : kb < W.heap.size := by omega
          clear hW item val bel box old c0 hta c1
          have k0' : (0 : Int) ≤ (k : Int) := by omega
          have k1' : (k : Int) < (n : Int) := by omega
          go_region_held (fun w' => w'.cell? ⟨kb, ko + k, none⟩ = some (.string (K k)) ∧ w'.cell? ⟨wr.heap.size, 0, none⟩ = some (.string (T k)) ∧ w'.cell? ⟨wr.heap.size, 1, none⟩ = some (.slice none 0 0) ∧ w'.cell? ⟨wr.heap.size, 2, none⟩ = some (.map none)) (go_keep)
            (first | (go_at_call 32; refine (set_any (w.heap.size + 1) (w.heap.size + 1) r id typ (K k) (T k) none 0 0 _ HR.out.1.drew HR.out.2.1.drew (H.out.2.2.2 k)).mono ?_; rintro e w1 ⟨rfl, hd⟩; have hf1 := set_far hd r4 r1 r2; have hf2 := set_far hd ltw r3 rne))
          have HD := hide hd
          clear hd hf1 hf2 hk0 e0 e1 e2
          go_wp2
          go_roundg (gk - 1)
          case rel =>
            obtain ⟨r', hr'⟩ := HD.out.1
            exact ⟨k + 1, r', by have := HK.out; omega, by go_num, HR.out.2.2.drew.trans HD.out.2.1, hr'⟩
          case measure => have := HK.out; omega
      · by_cases h2 : k < nl
        · obtain ⟨lb, lo, rfl, hlb, c2⟩ := strs_cell H.out.2.2.1 H0.out.1 hbel h2
          have hlb' : lb < wr.heap.size := by omega
          have hla : ∀ o, (wr.alloc o).cell? ⟨lb, lo + k, none⟩ = some (.string (Ls k)) := fun o => by rw [World.cell?_alloc_lt _ _ _ hlb']; exact c2
          clear hbel hit
          go_wp2
          refine name_wp ?_
          intro W hW
          obtain ⟨box, item, val, bel, ltw, old, rne, rlo⟩ := ready_list HB.out.1 HB.out.2 (by omega) hW
          have hk0 : W.cell? ⟨kb, ko + k, none⟩ = some (.string (K k)) := by rw [World.cell?_of_block (w := wr) (old kb (by omega))]; exact c0
          have e0 : W.cell? ⟨wr.heap.size, 0, none⟩ = some (.string ⟨#[]⟩) := by simp [World.cell?, box]
          have e1 : W.cell? ⟨wr.heap.size, 1, none⟩ = some (.slice (some ⟨wr.heap.size + 1, 0, none⟩) 1 1) := by simp [World.cell?, box]
          have e2 : W.cell? ⟨wr.heap.size, 2, none⟩ = some (.map none) := by simp [World.cell?, box]
          have HR := hide (And.intro item (And.intro val bel))
          have r1 : kb ≠ w.heap.size + 1 := by omega
          have r2 : r ≠ some kb := rlo kb (by omega)
          have r3 : wr.heap.size ≠ w.heap.size + 1 := by omega
          have r4 : kb < W.heap.size := by omega
          clear hW item val bel box old c0 hla c2
          have k0' : (0 : Int) ≤ (k : Int) := by omega
          have k1' : (k : Int) < (n : Int) := by omega
          go_region_held (fun w' => w'.cell? ⟨kb, ko + k, none⟩ = some (.string (K k)) ∧ w'.cell? ⟨wr.heap.size, 0, none⟩ = some (.string ⟨#[]⟩) ∧ w'.cell? ⟨wr.heap.size, 1, none⟩ = some (.slice (some ⟨wr.heap.size + 1, 0, none⟩) 1 1) ∧ w'.cell? ⟨wr.heap.size, 2, none⟩ = some (.map none)) (go_keep)
            (first | (go_at_call 32; refine (set_any (w.heap.size + 1) (w.heap.size + 1) r id typ (K k) ⟨#[]⟩ (some ⟨wr.heap.size + 1, 0, none⟩) 1 1 _ HR.out.1.drew HR.out.2.1.drew (H.out.2.2.2 k)).mono ?_; rintro e w1 ⟨rfl, hd⟩; have hf1 := set_far hd r4 r1 r2; have hf2 := set_far hd ltw r3 rne))
          have HD := hide hd
          clear hd hf1 hf2 hk0 e0 e1 e2
          go_wp2
          go_roundg (gk - 1)
          case rel =>
            obtain ⟨r', hr'⟩ := HD.out.1
            exact ⟨k + 1, r', by have := HK.out; omega, by go_num, HR.out.2.2.drew.trans HD.out.2.1, hr'⟩
          case measure => have := HK.out; omega
        · clear hbel hit
          go_wp2
          refine name_wp ?_
          intro W hW
          obtain ⟨box, item, val, bel, ltw, old, rne, rlo⟩ := ready_plain HB.out.1 HB.out.2 (by omega) hW
          have hk0 : W.cell? ⟨kb, ko + k, none⟩ = some (.string (K k)) := by rw [World.cell?_of_block (w := wr) (old kb (by omega))]; exact c0
          have e0 : W.cell? ⟨wr.heap.size, 0, none⟩ = some (.string ⟨#[]⟩) := by simp [World.cell?, box]
          have e1 : W.cell? ⟨wr.heap.size, 1, none⟩ = some (.slice none 0 0) := by simp [World.cell?, box]
          have e2 : W.cell? ⟨wr.heap.size, 2, none⟩ = some (.map none) := by simp [World.cell?, box]
          have HR := hide (And.intro item (And.intro val bel))
          have r1 : kb ≠ w.heap.size + 1 := by omega
          have r2 : r ≠ some kb := rlo kb (by omega)
          have r3 : wr.heap.size ≠ w.heap.size + 1 := by omega
          have r4 : kb < W.heap.size := by omega
          clear hW item val bel box old c0
          have k0' : (0 : Int) ≤ (k : Int) := by omega
          have k1' : (k : Int) < (n : Int) := by omega
          go_region_held (fun w' => w'.cell? ⟨kb, ko + k, none⟩ = some (.string (K k)) ∧ w'.cell? ⟨wr.heap.size, 0, none⟩ = some (.string ⟨#[]⟩) ∧ w'.cell? ⟨wr.heap.size, 1, none⟩ = some (.slice none 0 0) ∧ w'.cell? ⟨wr.heap.size, 2, none⟩ = some (.map none)) (go_keep)
            (first | (go_at_call 32; refine (set_any (w.heap.size + 1) (w.heap.size + 1) r id typ (K k) ⟨#[]⟩ none 0 0 _ HR.out.1.drew HR.out.2.1.drew (H.out.2.2.2 k)).mono ?_; rintro e w1 ⟨rfl, hd⟩; have hf1 := set_far hd r4 r1 r2; have hf2 := set_far hd ltw r3 rne))
          have HD := hide hd
          clear hd hf1 hf2 hk0 e0 e1 e2
          go_wp2
          go_roundg (gk - 1)
          case rel =>
            obtain ⟨r', hr'⟩ := HD.out.1
            exact ⟨k + 1, r', by have := HK.out; omega, by go_num, HR.out.2.2.drew.trans HD.out.2.1, hr'⟩
          case measure => have := HK.out; omega
    · obtain rfl : k = n := by omega
      have d0 : wr.cell? ⟨w.heap.size + 1, 0, none⟩ = some (.string id) := hit.row.cell (i := 0) (by omega)
      have d1 : wr.cell? ⟨w.heap.size + 1, 1, none⟩ = some (.string typ) := hit.row.cell (i := 1) (by omega)
      have d2 : wr.cell? ⟨w.heap.size + 1, 2, none⟩ = some (.map r) := hit.row.cell (i := 2) (by omega)
      have hrr := row_below H0.out.2.2 hbel (Nat.lt_succ_self _)
      have g0 : wr.cell? ⟨w.heap.size, 0, none⟩ = some (.string ⟨#[]⟩) := hrr.cell (i := 0) (by omega)
      have g1 : wr.cell? ⟨w.heap.size, 1, none⟩ = some (.string ⟨#[]⟩) := hrr.cell (i := 1) (by omega)
      have g2 : wr.cell? ⟨w.heap.size, 2, none⟩ = some (.map none) := hrr.cell (i := 2) (by omega)
      have f := hrr.frozen
      clear hk hbel hit hlt hrr
      go_wp2
      refine bodyPost_ret (v := .agg #[.string id, .string typ, .map r]) (by simp [results, Trym.results26, go_sem, g0, g1, g2]) rfl ⟨⟨r, rfl, ?_⟩, ?_⟩
      · exact ((HB.out.2.props.setCell (Nat.lt_succ_of_lt (Nat.lt_succ_self _)) _).setCell (Nat.lt_succ_of_lt (Nat.lt_succ_self _)) _).setCell (Nat.lt_succ_of_lt (Nat.lt_succ_self _)) _
      · exact (((H0.out.1.trans (HB.out.1.mono (by omega))).setCell (Nat.le_refl _) _).setCell (Nat.le_refl _) _).setCell (Nat.le_refl _) _

end Go.Proofs.Qxb6000432aMods
