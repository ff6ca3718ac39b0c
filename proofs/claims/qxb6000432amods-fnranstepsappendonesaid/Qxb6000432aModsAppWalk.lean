/-
  DERIVED. FnRanStepsAppendOne: the walk.
-/
import Derived.Test.Qxb6000432aModsAppFacts
namespace Go.Proofs.Qxb6000432aMods
open Go.RowKit

set_option maxRecDepth 100000 in
set_option maxHeartbeats 2000000 in
theorem app_main (a : Option Addr) (n cap : Nat) (S : Nat → ByteArray) (b : Option Addr) (m cap' : Nat) (D : Nat → ByteArray) (xs xd : ByteArray) (w : World) (hS : Strs w a n S) (hD : Strs w b m D) (hn : n ≤ 65536) (hm : m ≤ 65536)
    (ha : a = none → n = 0 ∧ cap = 0) (hb : b = none → m = 0 ∧ cap' = 0) (hsz : ∀ i, (D i).size ≤ maxLen) (hxs : xs.size ≤ maxLen) (hxd : xd.size ≤ maxLen) :
    Calls Trym.prog 7 #[.slice a n cap, .slice b m cap', .string xs, .string xd] w fun e w' => e = .returned (.bool true) ∧ Below w.heap.size w w' := by
  have H := hide (And.intro hS hD)
  have HA := hide (And.intro ha hb)
  obtain ⟨De, hDe⟩ : ∃ De : Nat → ByteArray, De = fun i => if i < m then D i else ByteArray.empty := ⟨_, rfl⟩
  have hsz' : Hid (∀ i, (De i).size ≤ maxLen) := fun i => by
    rw [hDe]
    show (if i < m then D i else ByteArray.empty).size ≤ maxLen
    split
    · exact hsz i
    · exact Nat.zero_le _
  have HDe := hide hDe
  have HX := hide (And.intro hxs hxd)
  obtain ⟨N, hN⟩ : ∃ N, N = n + 1 := ⟨_, rfl⟩
  have hmk := run_make_steps N (by omega)
  rw [show ((N : Nat) : Int) = (n : Int) + 1 from by omega] at hmk
  have HN := hide hN
  have hnN : n < N := by omega
  have hN' : N ≤ 65537 := by omega
  clear hN
  clear hS hD ha hb hDe hsz hxs hxd
  go_enter Trym.func7, Trym.ntmps7
  go_wp2_with fail
  refine (bytes21 _ n cap S _ m cap' D xs xd _ H.out.1 (by unfold maxLen; omega) H.out.2 (by unfold maxLen; omega) HX.out.1 HX.out.2).mono ?_
  rintro e w1 ⟨⟨x, rfl⟩, hw⟩
  subst w1
  cases x
  · go_wp2
    go_ret
    exact ⟨rfl, Below.refl _ _⟩
  go_wp2_with fail
  refine (strsBytes_any _ n cap S _ H.out.1 (by unfold maxLen; omega)).mono ?_
  rintro e w1 ⟨⟨r1, r10, r11, _, rfl⟩, hw⟩
  subst w1
  go_wp2_with fail
  refine (strsBytes_any _ m cap' D _ H.out.2 (by unfold maxLen; omega)).mono ?_
  rintro e w1 ⟨⟨r2, r20, r21, _, rfl⟩, hw⟩
  subst w1
  go_wp2_with fail
  refine (strBytes_any xs _ HX.out.1).mono ?_
  rintro e w1 ⟨⟨r3, r30, r31, rfl⟩, hw⟩
  subst w1
  go_wp2_with fail
  refine (strBytes_any xd _ HX.out.2).mono ?_
  rintro e w1 ⟨⟨r4, r40, r41, rfl⟩, hw⟩
  subst w1
  by_cases hr : 1048576 < r1 + r2 + r3 + r4
  · go_wp2
    go_ret
    exact ⟨rfl, Below.refl _ _⟩
  go_wp2_with fail
  refine (clone_any a n cap S _ H.out.1 hn HA.out.1).mono ?_
  rintro e w1 ⟨⟨a1, c1, rfl, hS1⟩, hb1⟩
  have H1 := hide (And.intro hS1 hb1)
  clear hS1 hb1
  go_wp2_with fail
  refine (clone_any b m cap' D _ (H.out.2.below H1.out.2) hm HA.out.2).mono ?_
  rintro e w2 ⟨⟨a2, c2, rfl, hS2⟩, hb2⟩
  have H2 := hide (And.intro (H1.out.1.below hb2) (And.intro hS2 (H1.out.2.trans (hb2.mono H1.out.2.size))))
  clear hS2 hb2 H1
  go_wp2_with fail
  refine (build_any a1 a2 n m c1 c2 S D _ H2.out.1 H2.out.2.1 hn hm De HDe.out).mono ?_
  rintro e w3 ⟨rfl, hb3, hrow3⟩
  have H3 := hide (And.intro hrow3 (H2.out.2.2.trans (hb3.mono H2.out.2.2.size)))
  have hz3 : w2.heap.size < w3.heap.size := hrow3.lt
  clear hb3 hrow3
  go_wp2_with fail
  go_loopg [12] n (fun q i wx => ∃ k : Nat, q + k = n ∧ i = .int .i64 k ∧ Below w3.heap.size w3 wx ∧ wx.rowIs w3.heap.size 44 (N * 8) (stepRowTo k S De))
  case atStart => exact ⟨0, rfl, rfl, (Below.refl _ _).alloc (Nat.le_refl _) _, rowIs_made_steps _ _ _ _⟩
  case round =>
    obtain ⟨k, hk, rfl, hbel, hrow⟩ := hrel
    by_cases hlt : k < n
    · obtain ⟨c0, c1', c2', c3, c4, c5, c6, c7⟩ := step_cells H3.out.1 hlt
      rw [← bcell hbel _ _ hz3] at c0 c1' c2' c3 c4 c5 c6 c7
      have hne : ¬ (w2.heap.size = w3.heap.size) := by omega
      have d0 := hrow.cell (i := k * 8) (by omega)
      have d1 := hrow.cell (i := k * 8 + 1) (by omega)
      have d2 := hrow.cell (i := k * 8 + 2) (by omega)
      have d3 := hrow.cell (i := k * 8 + 3) (by omega)
      have d4 := hrow.cell (i := k * 8 + 4) (by omega)
      have d5 := hrow.cell (i := k * 8 + 5) (by omega)
      have d6 := hrow.cell (i := k * 8 + 6) (by omega)
      have d7 := hrow.cell (i := k * 8 + 7) (by omega)
      have f := hrow.frozen
      have HB := hide (And.intro hbel hrow)
      have HK := hide hk
      clear hk hbel hrow
      go_wp2
      go_roundg (gk - 1)
      case rel =>
        obtain ⟨hbel, hrow⟩ := HB.out
        exact ⟨k + 1, by have := HK.out; omega, by go_num, set8_below hbel (Nat.le_refl _) (k * 8) k (S k) (De k), set8_row hrow⟩
      case measure => have := HK.out; omega
    · obtain rfl : k = n := by omega
      have d0 := hrow.cell (i := k * 8) (by omega)
      have d1 := hrow.cell (i := k * 8 + 1) (by omega)
      have d2 := hrow.cell (i := k * 8 + 2) (by omega)
      have d3 := hrow.cell (i := k * 8 + 3) (by omega)
      have d4 := hrow.cell (i := k * 8 + 4) (by omega)
      have d5 := hrow.cell (i := k * 8 + 5) (by omega)
      have d6 := hrow.cell (i := k * 8 + 6) (by omega)
      have d7 := hrow.cell (i := k * 8 + 7) (by omega)
      have f := hrow.frozen
      have hgw := hrow.lt
      have HB := hide (And.intro hbel hrow)
      clear hk hbel hrow hlt hmk
      go_wp2_with fail
      refine name_world ?_
      intro wA hwA
      obtain ⟨rowS, rowX, xat, tcell, belA, hxb⟩ := app_facts (n := k) (N := N) (S := S) (De := De) (xs := xs) (xd := xd) HN.out hz3 H3.out.1 H3.out.2 HB.out.1 HB.out.2 rfl rfl hwA
      clear hwA d0 d1 d2 d3 d4 d5 d6 d7 f
      refine (zzRan_any (wr.heap.size + 1) w2.heap.size k k S De wA tcell rowS (by omega) hsz'.out).mono ?_
      rintro e w5 ⟨rfl, hb5, L1, hM5, hG5⟩
      have H5 := hide (And.intro hb5 (And.intro hM5 (And.intro hG5 (And.intro rowS (And.intro rowX (And.intro xat belA))))))
      clear hb5 hM5 hG5 rowS rowX xat belA tcell
      go_wp2_with fail
      refine name_world ?_
      intro wB hwB
      obtain ⟨hb5, hM5, hG5, rowS, rowX, xat, belA⟩ := H5.out
      obtain ⟨tcell, rowB, hnext⟩ := app_second (task := _) hb5 hM5 hG5 rowS rowX xat hxb rfl hwB
      clear hwB hb5 hM5 hG5 rowS rowX xat
      refine (zzRan_any w5.heap.size w3.heap.size N N (upd S k xs) (upd De k xd) wB tcell rowB hN' (fun i => by
        unfold upd
        split
        · exact HX.out.2
        · exact hsz'.out i)).mono ?_
      rintro e w6 ⟨rfl, hb6, L2, hM6, hG6⟩
      obtain ⟨hApp, hbA6⟩ := hnext w6 L2 hb6 hM6 hG6
      have H6 := hide (And.intro hApp (belA.trans (hbA6.mono belA.size)))
      clear hb6 hM6 hG6 hApp hbA6 hnext tcell rowB belA H5 HB H3 H2
      go_wp2_with fail
      go_loopg [16, 17] k (fun q y iv wx => ∃ i : Nat, q + i = k ∧ y = .int .i64 (nf S De i) ∧ iv = .int .i64 i ∧ Below w6.heap.size w6 wx)
      case atStart => exact ⟨0, rfl, rfl, rfl, Below.refl _ _⟩
      case round =>
        obtain ⟨i, hi, rfl, rfl, hbel⟩ := hrel
        have hA := H6.out.1.below hbel
        have b2 := nf_le S De i
        by_cases hlt : i < k
        · obtain ⟨_, _, c2', c3, _⟩ := step_cells hA.row hlt
          have HK := hide hi
          have HB := hide hbel
          cases hp : isPend (S i) with
          | true =>
            have HP := hide hp
            have hq : ((S i).toList == [80, 69, 78, 68, 73, 78, 71]) = true := hp
            clear hi hbel hA hp c3
            go_wp2
            go_roundg (gk - 1)
            case rel => exact ⟨i + 1, by have := HK.out; omega, by rw [nf_pend HP.out], by go_num, HB.out⟩
            case measure => have := HK.out; omega
          | false =>
            have HP := hide hp
            have hq : ((S i).toList == [80, 69, 78, 68, 73, 78, 71]) = false := hp
            obtain ⟨gb, gc, hlook1, c4, hother⟩ := hA.at HN.out hsz'.out hlt hp
            have hpos : 0 < (idx S De (De i) k).length := List.length_pos_iff.2 (idx_ne hlt hp)
            have hlen := idx_le S De (De i) k
            have hle := head_le (De := De) hlt hp
            have HE := hide (head_eq (De := De) hlt hp)
            have HO := hide hother
            clear hi hbel hA hp hother
            by_cases hf : nth S De (De i) k 0 = i
            · have HF := hide (HE.out.1 hf)
              rw [hf] at c4
              clear hf hle HE
              by_cases hxe : De i = xd
              · have he := bytes_eq hxe
                clear hxe HO
                go_wp2
                go_roundg (gk - 1)
                case rel => exact ⟨i + 1, by have := HK.out; omega, by rw [nf_hit HP.out HF.out]; go_num, by go_num, HB.out⟩
                case measure => have := HK.out; omega
              · have he := bytes_ne hxe
                obtain ⟨gb', gc', hlook2, hsame⟩ := HO.out (Ne.symm hxe)
                have HS := hide hsame
                clear hxe HO hsame
                go_wp2_with fail
                refine (groupEq_any _ _ _ _ _ _ (by omega) HS.out).mono ?_
                rintro e w7 ⟨rfl, c, rfl⟩
                go_wp2
                go_roundg (gk - 1)
                case rel => exact ⟨i + 1, by have := HK.out; omega, by rw [nf_hit HP.out HF.out]; go_num, by go_num, below_drewN HB.out _⟩
                case measure => have := HK.out; omega
            · have HF := hide (fun h => hf (HE.out.2 h))
              have hlt2 : nth S De (De i) k 0 < i := by omega
              clear hf hle HE HO
              revert c4 hlt2
              generalize nth S De (De i) k 0 = f
              intro c4 hlt2
              go_wp2
              go_roundg (gk - 1)
              case rel => exact ⟨i + 1, by have := HK.out; omega, by rw [nf_miss HF.out], by go_num, HB.out⟩
              case measure => have := HK.out; omega
        · obtain rfl : i = k := by omega
          have hl1 := fun ty => hA.map1.len Trym.underlying32 ty
          have hl1' := fun c ty => MapIs.len (w := wr.drewN c) hA.map1 Trym.underlying32 ty
          rw [hA.grp1.len] at hl1 hl1'
          have HB := hide (H6.out.2.trans (hbel.mono H6.out.2.size))
          cases hp : isPend xs with
          | true =>
            have hq : (xs.toList == [80, 69, 78, 68, 73, 78, 71]) = true := hp
            obtain ⟨x1, e1, x2, e2, mm, ok, hmm, look1, look2, same, hL⟩ := hA.x_pend HN.out HX.out.2 hp
            have hl2 := fun c ty => MapIs.len (w := wr.drewN c) hA.map2 Trym.underlying32 ty
            rw [hL, hA.grp1.len] at hl2
            have HS := hide same
            clear hi hbel hA hp hlt same hL
            go_wp2_with (go_at_call 23; refine (groupEq_any _ _ _ _ _ _ (by omega) HS.out).mono ?_; rintro e w7 ⟨rfl, c, rfl⟩)
            go_ret
            exact ⟨by simp, below_drewN HB.out _⟩
          | false =>
            have hq : (xs.toList == [80, 69, 78, 68, 73, 78, 71]) = false := hp
            obtain ⟨x1, e1, g2, e2, mm, ok, hmm, hcap, look1, look2, same, xlast, hL⟩ := hA.x_ran HN.out HX.out.2 hp
            have hl2 := fun c ty => MapIs.len (w := wr.drewN c) hA.map2 Trym.underlying32 ty
            rw [hL, hA.grp1.len] at hl2
            have HS := hide same
            obtain ⟨p0, p1, p2, p3, p4, p5, p6, p7⟩ := hA.xat
            obtain ⟨q0, q1, q2, q3, q4, q5, q6, q7⟩ := xlast
            simp only [Nat.zero_add] at p1 p2 p3 p4 p5 p6 p7
            have i0 : (0 : Int) ≤ (mm : Int) := by omega
            have i1 : (mm : Int) < (mm : Int) + 1 := by omega
            have i2 : (mm : Int) ≤ (e2 : Int) := by omega
            clear hi hbel hA hp hlt same hL
            cases ok
            all_goals
              go_wp2
              go_quiet ((go_at_call 23; exact Calls.quiet_of (groupEq_any _ _ _ _ _ _ (by omega) HS.out)))
              go_wp2
              go_ret
              exact ⟨by simp, below_drewN HB.out _⟩

set_option maxRecDepth 100000 in
set_option maxHeartbeats 400000 in
theorem app_big (a : Option Addr) (n cap : Nat) (S : Nat → ByteArray) (b : Option Addr) (m cap' : Nat) (D : Nat → ByteArray) (xs xd : ByteArray) (w : World) (hS : Strs w a n S) (mS : n ≤ maxLen) (hD : Strs w b m D) (mD : m ≤ maxLen)
    (hxs : xs.size ≤ maxLen) (hxd : xd.size ≤ maxLen) (hbig : 65536 < n ∨ 65536 < m) :
    Calls Trym.prog 7 #[.slice a n cap, .slice b m cap', .string xs, .string xd] w fun e w' => e = .returned (.bool true) ∧ Below w.heap.size w w' := by
  have H := hide (And.intro hS hD)
  have HX := hide (And.intro hxs hxd)
  clear hS hD hxs hxd
  go_enter Trym.func7, Trym.ntmps7
  go_wp2_with fail
  refine (bytes21 _ n cap S _ m cap' D xs xd _ H.out.1 mS H.out.2 mD HX.out.1 HX.out.2).mono ?_
  rintro e w1 ⟨⟨x, rfl⟩, hw⟩
  subst w1
  cases x
  · go_wp2
    go_ret
    exact ⟨rfl, Below.refl _ _⟩
  by_cases h1 : 65536 < n
  · go_wp2
    go_ret
    exact ⟨rfl, Below.refl _ _⟩
  · have h2 : 65536 < m := by omega
    go_wp2
    go_ret
    exact ⟨rfl, Below.refl _ _⟩

theorem app_any (a : Option Addr) (n cap : Nat) (S : Nat → ByteArray) (b : Option Addr) (m cap' : Nat) (D : Nat → ByteArray) (xs xd : ByteArray) (w : World)
    (hS : Strs w a n S) (mS : n ≤ maxLen) (zS : a = none → n = 0 ∧ cap = 0) (_sS : ∀ i, (S i).size ≤ maxLen) (hD : Strs w b m D) (mD : m ≤ maxLen) (zD : b = none → m = 0 ∧ cap' = 0) (sD : ∀ i, (D i).size ≤ maxLen)
    (hxs : xs.size ≤ maxLen) (hxd : xd.size ≤ maxLen) :
    Calls Trym.prog 7 #[.slice a n cap, .slice b m cap', .string xs, .string xd] w fun e w' => e = .returned (.bool true) ∧ Below w.heap.size w w' := by
  by_cases hbig : 65536 < n ∨ 65536 < m
  · exact app_big a n cap S b m cap' D xs xd w hS mS hD mD hxs hxd hbig
  · exact app_main a n cap S b m cap' D xs xd w hS hD (by omega) (by omega) zS zD sD hxs hxd

end Go.Proofs.Qxb6000432aMods
