/-
  DERIVED. FnOppositeTwiceUndoes: the walk.
-/
import Derived.Test.Qxb6000432aModsAgree
import Derived.Test.Qxb6000432aModsBytesOpp
namespace Go.Proofs.Qxb6000432aMods
open Go.RowKit

/-- a delta's seven cells -/
theorem cells7 {w : World} {b : Nat} {v0 v1 v2 v3 v4 v5 v6 : Value} (h : w.heap[b]? = some (.cells #[v0, v1, v2, v3, v4, v5, v6] 54)) :
    w.cell? ⟨b, 0, none⟩ = some v0 ∧ w.cell? ⟨b, 1, none⟩ = some v1 ∧ w.cell? ⟨b, 2, none⟩ = some v2 ∧ w.cell? ⟨b, 3, none⟩ = some v3 ∧ w.cell? ⟨b, 4, none⟩ = some v4 ∧ w.cell? ⟨b, 5, none⟩ = some v5 ∧ w.cell? ⟨b, 6, none⟩ = some v6 := by
  refine ⟨?_, ?_, ?_, ?_, ?_, ?_, ?_⟩ <;> simp [World.cell?, h]
theorem cells7a {w : World} {b : Nat} {v0 v1 v2 v3 v4 v5 v6 : Value} (h : w.heap[b]? = some (.cells #[v0, v1, v2, v3, v4, v5, v6] 54)) :
    (∀ o, (w.alloc o).cell? ⟨b, 0, none⟩ = some v0) ∧ (∀ o, (w.alloc o).cell? ⟨b, 1, none⟩ = some v1) ∧ (∀ o, (w.alloc o).cell? ⟨b, 2, none⟩ = some v2) ∧ (∀ o, (w.alloc o).cell? ⟨b, 3, none⟩ = some v3) ∧
      (∀ o, (w.alloc o).cell? ⟨b, 4, none⟩ = some v4) ∧ (∀ o, (w.alloc o).cell? ⟨b, 5, none⟩ = some v5) ∧ (∀ o, (w.alloc o).cell? ⟨b, 6, none⟩ = some v6) := by
  have hb : b < w.heap.size := (Array.getElem?_eq_some_iff.1 h).1
  obtain ⟨h0, h1, h2, h3, h4, h5, h6⟩ := cells7 h
  refine ⟨fun o => ?_, fun o => ?_, fun o => ?_, fun o => ?_, fun o => ?_, fun o => ?_, fun o => ?_⟩ <;> rw [World.cell?_alloc_lt _ _ _ hb] <;> assumption
theorem laid54 {w X : World} {c : Array Value} (h : X = w.alloc (.cells c 54)) : Below w.heap.size w X ∧ X.heap[w.heap.size]? = some (.cells c 54) ∧ X.heap.size = w.heap.size + 1 := by
  subst h
  exact ⟨(Below.refl _ _).alloc (Nat.le_refl _) _, Deep.blk_alloc_new _ _, by simp⟩
theorem bytes_of {a : ByteArray} {l : Array UInt8} (h : (a.toList == l.toList) = true) : a = ⟨l⟩ := by
  have e : a.toList = l.toList := by simpa using h
  rw [ByteArray.toList_eq] at e
  exact WideShapes.bytes_inj e
theorem PropsOk.none (w : World) : PropsOk w 0 none := Or.inl rfl

set_option maxRecDepth 100000 in
set_option maxHeartbeats 4000000 in
theorem opp_any (o i1 y1 : ByteArray) (k1 : Option Addr) (nk1 ck1 : Nat) (Sk1 : Nat → ByteArray) (t1 : Option Addr) (nt1 ct1 : Nat) (St1 : Nat → ByteArray) (l1 : Option Addr) (nl1 cl1 : Nat) (Sl1 : Nat → ByteArray)
    (i2 y2 : ByteArray) (k2 : Option Addr) (nk2 ck2 : Nat) (Sk2 : Nat → ByteArray) (t2 : Option Addr) (nt2 ct2 : Nat) (St2 : Nat → ByteArray) (l2 : Option Addr) (nl2 cl2 : Nat) (Sl2 : Nat → ByteArray) (w : World)
    (mo : o.size ≤ maxLen) (mi1 : i1.size ≤ maxLen) (my1 : y1.size ≤ maxLen)
    (hk1 : Strs w k1 nk1 Sk1) (mk1 : nk1 ≤ maxLen) (zk1 : k1 = none → nk1 = 0 ∧ ck1 = 0) (sk1 : ∀ i, (Sk1 i).size ≤ maxLen)
    (ht1 : Strs w t1 nt1 St1) (mt1 : nt1 ≤ maxLen) (zt1 : t1 = none → nt1 = 0 ∧ ct1 = 0) (_st1 : ∀ i, (St1 i).size ≤ maxLen)
    (hl1 : Strs w l1 nl1 Sl1) (ml1 : nl1 ≤ maxLen) (zl1 : l1 = none → nl1 = 0 ∧ cl1 = 0) (_sl1 : ∀ i, (Sl1 i).size ≤ maxLen)
    (mi2 : i2.size ≤ maxLen) (my2 : y2.size ≤ maxLen)
    (hk2 : Strs w k2 nk2 Sk2) (mk2 : nk2 ≤ maxLen) (zk2 : k2 = none → nk2 = 0 ∧ ck2 = 0) (sk2 : ∀ i, (Sk2 i).size ≤ maxLen)
    (ht2 : Strs w t2 nt2 St2) (mt2 : nt2 ≤ maxLen) (zt2 : t2 = none → nt2 = 0 ∧ ct2 = 0) (_st2 : ∀ i, (St2 i).size ≤ maxLen)
    (hl2 : Strs w l2 nl2 Sl2) (ml2 : nl2 ≤ maxLen) (zl2 : l2 = none → nl2 = 0 ∧ cl2 = 0) (_sl2 : ∀ i, (Sl2 i).size ≤ maxLen) :
    Calls Trym.prog 8 #[.string o, .string i1, .string y1, .slice k1 nk1 ck1, .slice t1 nt1 ct1, .slice l1 nl1 cl1, .string i2, .string y2, .slice k2 nk2 ck2, .slice t2 nt2 ct2, .slice l2 nl2 cl2] w
      fun e w' => e = .returned (.bool true) ∧ Below w.heap.size w w' := by
  have H := hide (And.intro hk1 (And.intro ht1 (And.intro hl1 (And.intro hk2 (And.intro ht2 hl2)))))
  have M := hide (And.intro mo (And.intro mi1 (And.intro my1 (And.intro mi2 my2))))
  have M2 := hide (And.intro mk1 (And.intro mt1 (And.intro ml1 (And.intro mk2 (And.intro mt2 ml2)))))
  have Z := hide (And.intro zk1 (And.intro zt1 (And.intro zl1 (And.intro zk2 (And.intro zt2 zl2)))))
  have SS := hide (And.intro sk1 sk2)
  clear hk1 ht1 hl1 hk2 ht2 hl2 mo mi1 my1 mi2 my2 mk1 mt1 ml1 mk2 mt2 ml2 zk1 zt1 zl1 zk2 zt2 zl2 sk1 sk2 _st1 _sl1 _st2 _sl2
  go_enter Trym.func8, Trym.ntmps8
  go_wp2_with fail
  refine (bytes24 o i1 y1 _ _ _ Sk1 _ _ _ St1 _ _ _ Sl1 i2 y2 _ _ _ Sk2 _ _ _ St2 _ _ _ Sl2 _ M.out.1 M.out.2.1 M.out.2.2.1 H.out.1 M2.out.1 H.out.2.1 M2.out.2.1 H.out.2.2.1 M2.out.2.2.1 M.out.2.2.2.1 M.out.2.2.2.2
    H.out.2.2.2.1 M2.out.2.2.2.1 H.out.2.2.2.2.1 M2.out.2.2.2.2.1 H.out.2.2.2.2.2 M2.out.2.2.2.2.2).mono ?_
  rintro e w1 ⟨⟨x, rfl⟩, hw⟩
  subst w1
  cases x
  · go_wp2
    go_ret
    exact ⟨rfl, Below.refl _ _⟩
  go_wp2_with fail
  refine (bounds_any o i1 y1 _ _ _ Sk1 _ _ _ St1 _ _ _ Sl1 i2 y2 _ _ _ Sk2 _ _ _ St2 _ _ _ Sl2 _ M.out.1 M.out.2.1 M.out.2.2.1 H.out.1 M2.out.1 H.out.2.1 M2.out.2.1 H.out.2.2.1 M2.out.2.2.1 M.out.2.2.2.1 M.out.2.2.2.2
    H.out.2.2.2.1 M2.out.2.2.2.1 H.out.2.2.2.2.1 M2.out.2.2.2.2.1 H.out.2.2.2.2.2 M2.out.2.2.2.2.2).mono ?_
  rintro e w1 ⟨⟨x, rfl, hbd⟩, hw⟩
  subst w1
  cases x
  · clear hbd
    go_wp2
    go_ret
    exact ⟨rfl, Below.refl _ _⟩
  have BD := hide (hbd rfl)
  clear hbd
  go_wp2_with fail
  refine (clone_any k1 nk1 ck1 Sk1 _ H.out.1 BD.out.1 Z.out.1).mono ?_
  rintro e w1 ⟨⟨a1, c1, rfl, hS⟩, hb⟩
  have C1 := hide (And.intro hS hb)
  clear hS hb
  go_wp2_with fail
  refine (clone_any t1 nt1 ct1 St1 _ (H.out.2.1.below C1.out.2) BD.out.2.1 Z.out.2.1).mono ?_
  rintro e w2 ⟨⟨a2, c2, rfl, hS⟩, hb⟩
  have C2 := hide (And.intro hS (And.intro (C1.out.1.below hb) (C1.out.2.trans (hb.mono C1.out.2.size))))
  clear hS hb
  go_wp2_with fail
  refine (clone_any l1 nl1 cl1 Sl1 _ (H.out.2.2.1.below C2.out.2.2) BD.out.2.2.1 Z.out.2.2.1).mono ?_
  rintro e w3 ⟨⟨a3, c3, rfl, hS⟩, hb⟩
  have C3 := hide (And.intro hS (And.intro (C2.out.1.below hb) (And.intro (C2.out.2.1.below hb) (C2.out.2.2.trans (hb.mono C2.out.2.2.size)))))
  clear hS hb
  go_wp2_with fail
  refine (clone_any k2 nk2 ck2 Sk2 _ (H.out.2.2.2.1.below C3.out.2.2.2) BD.out.2.2.2.1 Z.out.2.2.2.1).mono ?_
  rintro e w4 ⟨⟨a4, c4, rfl, hS⟩, hb⟩
  have C4 := hide (And.intro hS (And.intro (C3.out.1.below hb) (And.intro (C3.out.2.1.below hb) (And.intro (C3.out.2.2.1.below hb) (C3.out.2.2.2.trans (hb.mono C3.out.2.2.2.size))))))
  clear hS hb
  go_wp2_with fail
  refine (clone_any t2 nt2 ct2 St2 _ (H.out.2.2.2.2.1.below C4.out.2.2.2.2) BD.out.2.2.2.2.1 Z.out.2.2.2.2.1).mono ?_
  rintro e w5 ⟨⟨a5, c5, rfl, hS⟩, hb⟩
  have C5 := hide (And.intro hS (And.intro (C4.out.1.below hb) (And.intro (C4.out.2.1.below hb) (And.intro (C4.out.2.2.1.below hb) (And.intro (C4.out.2.2.2.1.below hb) (C4.out.2.2.2.2.trans (hb.mono C4.out.2.2.2.2.size)))))))
  clear hS hb
  go_wp2_with fail
  refine (clone_any l2 nl2 cl2 Sl2 _ (H.out.2.2.2.2.2.below C5.out.2.2.2.2.2) BD.out.2.2.2.2.2 Z.out.2.2.2.2.2).mono ?_
  rintro e w6 ⟨⟨a6, c6, rfl, hS⟩, hb⟩
  -- in w6: l2 t2 k2 l1 t1 k1, then what lay before
  have C6 := hide (And.intro hS (And.intro (C5.out.1.below hb) (And.intro (C5.out.2.1.below hb) (And.intro (C5.out.2.2.1.below hb) (And.intro (C5.out.2.2.2.1.below hb) (And.intro (C5.out.2.2.2.2.1.below hb) (C5.out.2.2.2.2.2.trans (hb.mono C5.out.2.2.2.2.2.size))))))))
  clear hS hb C1 C2 C3 C4 C5
  go_wp2_with fail
  refine (item_any i1 y1 a1 nk1 c1 Sk1 a2 nt1 c2 St1 a3 nl1 c3 Sl1 w6 C6.out.2.2.2.2.2.1 C6.out.2.2.2.2.1 C6.out.2.2.2.1 BD.out.1 SS.out.1).mono ?_
  rintro e w7 ⟨⟨r1, rfl, hp1⟩, hb⟩
  have C7 := hide (And.intro hp1 hb)
  clear hp1 hb
  go_wp2_with fail
  refine (item_any i2 y2 a4 nk2 c4 Sk2 a5 nt2 c5 St2 a6 nl2 c6 Sl2 w7 (C6.out.2.2.1.below C7.out.2) (C6.out.2.1.below C7.out.2) (C6.out.1.below C7.out.2) BD.out.2.2.2.1 SS.out.2).mono ?_
  rintro e w8 ⟨⟨r2, rfl, hp2⟩, hb⟩
  -- in w8: both properties, both lists of keys, what lay before
  have b68 : Below w6.heap.size w6 w8 := C7.out.2.trans (hb.mono C7.out.2.size)
  have C8 := hide (And.intro (C7.out.1.below hb) (And.intro hp2 (And.intro (C6.out.2.2.2.2.2.1.below b68) (And.intro (C6.out.2.2.1.below b68) (C6.out.2.2.2.2.2.2.trans (b68.mono C6.out.2.2.2.2.2.2.size))))))
  clear hp2 hb b68 C6 C7 H M M2 Z
  go_wp2_with fail
  refine name_world ?_
  intro w9 hw9
  obtain ⟨b9, e9, s9⟩ := laid54 hw9
  have C9 := hide (And.intro b9 (And.intro e9 (show w8.heap.size < w9.heap.size by omega)))
  clear b9 e9 s9 hw9
  by_cases hc : (o.toList == [67, 82, 69, 65, 84, 69]) = true
  · obtain rfl := bytes_of (l := #[67, 82, 69, 65, 84, 69]) hc
    clear hc
    refine (zzOpposite_create i1 y1 i2 y2 r1 r2 w9).mono ?_
    rintro e w10 ⟨rfl, hb⟩
    have C10 := hide (And.intro hb (C9.out.1.trans (hb.mono C9.out.1.size)))
    clear hb
    go_wp2_with fail
    refine (zzOpposite_destroy i1 y1 ⟨#[]⟩ ⟨#[]⟩ r1 none w10).mono ?_
    rintro e w11 ⟨rfl, hb⟩
    have b11 : Below w8.heap.size w8 w11 := C10.out.2.trans (hb.mono C10.out.2.size)
    have d11 := (hb.block _ (Nat.lt_of_lt_of_le C9.out.2.2 C10.out.1.size)).trans ((C10.out.1.block _ C9.out.2.2).trans C9.out.2.1)
    obtain ⟨f0, f1, f2, f3, f4, f5, f6⟩ := cells7a d11
    have C11 := hide (And.intro b11 d11)
    clear b11 d11 hb C10
    go_wp2_with fail
    refine name_world ?_
    intro w12 hw12
    obtain ⟨b12, e12, s12⟩ := laid54 hw12
    have b812 : Below w8.heap.size w8 w12 := C11.out.1.trans (b12.mono C11.out.1.size)
    have d12 := (b12.block _ (Array.getElem?_eq_some_iff.1 C11.out.2).1).trans C11.out.2
    have C12 := hide (And.intro b812 (And.intro d12 (And.intro e12 s12)))
    clear b12 e12 s12 hw12 b812 d12 f0 f1 f2 f3 f4 f5 f6
    refine (itemEq_any i1 y1 r1 _ a1 nk1 c1 Sk1 a4 nk2 c4 Sk2 w12 (C8.out.1.below C12.out.1) (C8.out.2.2.1.below C12.out.1) BD.out.1 SS.out.1 (C8.out.2.2.2.1.below C12.out.1) BD.out.2.2.2.1 SS.out.2).mono ?_
    rintro e w13 ⟨rfl, hb⟩
    have d13 := (hb.block _ (Array.getElem?_eq_some_iff.1 C12.out.2.1).1).trans C12.out.2.1
    have e13 := (hb.block _ (Array.getElem?_eq_some_iff.1 C12.out.2.2.1).1).trans C12.out.2.2.1
    have b813 : Below w8.heap.size w8 w13 := C12.out.1.trans (hb.mono C12.out.1.size)
    obtain ⟨f0, f1, f2, f3, f4, f5, f6⟩ := cells7 d13
    obtain ⟨g0, g1, g2, g3, g4, g5, g6⟩ := cells7 e13
    have C13 := hide b813
    clear d13 e13 b813 hb C12 C11 C9
    go_wp2_with fail
    refine (itemEq_any ⟨#[]⟩ ⟨#[]⟩ none 0 a1 nk1 c1 Sk1 a4 nk2 c4 Sk2 w13 (PropsOk.none _) (C8.out.2.2.1.below C13.out) BD.out.1 SS.out.1 (C8.out.2.2.2.1.below C13.out) BD.out.2.2.2.1 SS.out.2).mono ?_
    rintro e w14 ⟨rfl, hb⟩
    go_wp2
    go_ret
    exact ⟨rfl, C8.out.2.2.2.2.trans ((C13.out.trans (hb.mono C13.out.size)).mono C8.out.2.2.2.2.size)⟩
  by_cases hd : (o.toList == [68, 69, 83, 84, 82, 79, 89]) = true
  · obtain rfl := bytes_of (l := #[68, 69, 83, 84, 82, 79, 89]) hd
    clear hd hc
    refine (zzOpposite_destroy i1 y1 i2 y2 r1 r2 w9).mono ?_
    rintro e w10 ⟨rfl, hb⟩
    have C10 := hide (And.intro hb (C9.out.1.trans (hb.mono C9.out.1.size)))
    clear hb
    go_wp2_with fail
    refine (zzOpposite_create i1 y1 ⟨#[]⟩ ⟨#[]⟩ r1 none w10).mono ?_
    rintro e w11 ⟨rfl, hb⟩
    have b11 : Below w8.heap.size w8 w11 := C10.out.2.trans (hb.mono C10.out.2.size)
    have d11 := (hb.block _ (Nat.lt_of_lt_of_le C9.out.2.2 C10.out.1.size)).trans ((C10.out.1.block _ C9.out.2.2).trans C9.out.2.1)
    obtain ⟨f0, f1, f2, f3, f4, f5, f6⟩ := cells7a d11
    have C11 := hide (And.intro b11 d11)
    clear b11 d11 hb C10
    go_wp2_with fail
    refine name_world ?_
    intro w12 hw12
    obtain ⟨b12, e12, s12⟩ := laid54 hw12
    have b812 : Below w8.heap.size w8 w12 := C11.out.1.trans (b12.mono C11.out.1.size)
    have d12 := (b12.block _ (Array.getElem?_eq_some_iff.1 C11.out.2).1).trans C11.out.2
    have C12 := hide (And.intro b812 (And.intro d12 (And.intro e12 s12)))
    clear b12 e12 s12 hw12 b812 d12 f0 f1 f2 f3 f4 f5 f6
    refine (itemEq_any i1 y1 r1 _ a1 nk1 c1 Sk1 a4 nk2 c4 Sk2 w12 (C8.out.1.below C12.out.1) (C8.out.2.2.1.below C12.out.1) BD.out.1 SS.out.1 (C8.out.2.2.2.1.below C12.out.1) BD.out.2.2.2.1 SS.out.2).mono ?_
    rintro e w13 ⟨rfl, hb⟩
    have d13 := (hb.block _ (Array.getElem?_eq_some_iff.1 C12.out.2.1).1).trans C12.out.2.1
    have e13 := (hb.block _ (Array.getElem?_eq_some_iff.1 C12.out.2.2.1).1).trans C12.out.2.2.1
    have b813 : Below w8.heap.size w8 w13 := C12.out.1.trans (hb.mono C12.out.1.size)
    obtain ⟨f0, f1, f2, f3, f4, f5, f6⟩ := cells7 d13
    obtain ⟨g0, g1, g2, g3, g4, g5, g6⟩ := cells7 e13
    have C13 := hide b813
    clear d13 e13 b813 hb C12 C11 C9
    go_wp2_with fail
    refine (itemEq_any ⟨#[]⟩ ⟨#[]⟩ none 0 a1 nk1 c1 Sk1 a4 nk2 c4 Sk2 w13 (PropsOk.none _) (C8.out.2.2.1.below C13.out) BD.out.1 SS.out.1 (C8.out.2.2.2.1.below C13.out) BD.out.2.2.2.1 SS.out.2).mono ?_
    rintro e w14 ⟨rfl, hb⟩
    go_wp2
    go_ret
    exact ⟨rfl, C8.out.2.2.2.2.trans ((C13.out.trans (hb.mono C13.out.size)).mono C8.out.2.2.2.2.size)⟩
  · have hc' : (o.toList == [67, 82, 69, 65, 84, 69]) = false := by simpa using hc
    have hd' : (o.toList == [68, 69, 83, 84, 82, 79, 89]) = false := by simpa using hd
    clear hc hd
    refine (zzOpposite_other o i1 y1 i2 y2 r1 r2 w9 hc' hd').mono ?_
    rintro e w10 ⟨rfl, hb⟩
    have C10 := hide (And.intro hb (C9.out.1.trans (hb.mono C9.out.1.size)))
    clear hb
    go_wp2_with fail
    refine (zzOpposite_other o i2 y2 i1 y1 r2 r1 w10 hc' hd').mono ?_
    rintro e w11 ⟨rfl, hb⟩
    have b11 : Below w8.heap.size w8 w11 := C10.out.2.trans (hb.mono C10.out.2.size)
    have d11 := (hb.block _ (Nat.lt_of_lt_of_le C9.out.2.2 C10.out.1.size)).trans ((C10.out.1.block _ C9.out.2.2).trans C9.out.2.1)
    obtain ⟨f0, f1, f2, f3, f4, f5, f6⟩ := cells7a d11
    have C11 := hide (And.intro b11 d11)
    clear b11 d11 hb C10
    go_wp2_with fail
    refine name_world ?_
    intro w12 hw12
    obtain ⟨b12, e12, s12⟩ := laid54 hw12
    have b812 : Below w8.heap.size w8 w12 := C11.out.1.trans (b12.mono C11.out.1.size)
    have d12 := (b12.block _ (Array.getElem?_eq_some_iff.1 C11.out.2).1).trans C11.out.2
    have C12 := hide (And.intro b812 (And.intro d12 (And.intro e12 s12)))
    clear b12 e12 s12 hw12 b812 d12 f0 f1 f2 f3 f4 f5 f6
    refine (itemEq_any i1 y1 r1 _ a1 nk1 c1 Sk1 a4 nk2 c4 Sk2 w12 (C8.out.1.below C12.out.1) (C8.out.2.2.1.below C12.out.1) BD.out.1 SS.out.1 (C8.out.2.2.2.1.below C12.out.1) BD.out.2.2.2.1 SS.out.2).mono ?_
    rintro e w13 ⟨rfl, hb⟩
    have d13 := (hb.block _ (Array.getElem?_eq_some_iff.1 C12.out.2.1).1).trans C12.out.2.1
    have e13 := (hb.block _ (Array.getElem?_eq_some_iff.1 C12.out.2.2.1).1).trans C12.out.2.2.1
    have b813 : Below w8.heap.size w8 w13 := C12.out.1.trans (hb.mono C12.out.1.size)
    obtain ⟨f0, f1, f2, f3, f4, f5, f6⟩ := cells7 d13
    obtain ⟨g0, g1, g2, g3, g4, g5, g6⟩ := cells7 e13
    have C13 := hide b813
    clear d13 e13 b813 hb C12 C11 C9
    go_wp2_with fail
    refine (itemEq_any i2 y2 r2 _ a1 nk1 c1 Sk1 a4 nk2 c4 Sk2 w13 (C8.out.2.1.below C13.out) (C8.out.2.2.1.below C13.out) BD.out.1 SS.out.1 (C8.out.2.2.2.1.below C13.out) BD.out.2.2.2.1 SS.out.2).mono ?_
    rintro e w14 ⟨rfl, hb⟩
    go_wp2
    go_ret
    exact ⟨rfl, C8.out.2.2.2.2.trans ((C13.out.trans (hb.mono C13.out.size)).mono C8.out.2.2.2.2.size)⟩

end Go.Proofs.Qxb6000432aMods
