/-
  DERIVED. THE CALLEES under the two laws on isWordByte.
-/
import Derived.Test.Qxb6614043aModsRows
import Derived.Test.Qxb6614043aModsBytePlain
import Derived.WalkKit
import Derived.WalkSpells
import Derived.WalkLawsBesides
import Derived.BigQuiet
import Derived.Deep.QuietTactic
import Derived.Deep.LoopGhost
namespace Go.Proofs.Qxb6614043aMods.Bytes
open Go.RowKit

theorem hide {p : Prop} (h : p) : Hid p := h
theorem grown_trans {a b c : World} (h : Grown a b) (k : Grown b c) : Grown a c :=
  ⟨World.keptBut_trans h.1 (World.keptBut_mono (fun _ f => f.elim) k.1), fun x => (k.2.1 x).trans (h.2.1 x), Nat.le_trans h.2.2 k.2.2⟩
theorem ret_bool {a b : Bool} (h : a = b) : Ending.returned (.bool a) = .returned (.bool b) := by rw [h]

set_option maxHeartbeats 400000 in
theorem isName_any (c : Int) (w : World) :
    Calls Trym.prog 15 #[.int .i32 c] w fun e w' => e = .returned (.bool (nameB c)) ∧ w' = w := by
  by_cases h1 : c = 95
  · subst h1
    go_enter Trym.func15, Trym.ntmps15
    go_wp2
    go_ret
    exact ⟨ret_bool (by decide), rfl⟩
  · have n1 : (c == 95) = false := by simpa using h1
    by_cases h2 : 97 ≤ c <;> by_cases h3 : c ≤ 122 <;> by_cases h4 : 65 ≤ c <;> by_cases h5 : c ≤ 90 <;> by_cases h6 : 48 ≤ c <;> by_cases h7 : c ≤ 57
    all_goals try omega
    all_goals
      clear h1
      go_enter Trym.func15, Trym.ntmps15
      go_wp2
      go_ret
      have h1 : ¬ c = 95 := by simpa using n1
      exact ⟨ret_bool (by simp [nameB]; omega), rfl⟩

theorem isName_t (c : Int) (w : World) (h : nameB c = true) :
    Calls Trym.prog 15 #[.int .i32 c] w fun e w' => e = .returned (.bool true) ∧ w' = w := by rw [← h]; exact isName_any c w
theorem isName_f (c : Int) (w : World) (h : nameB c = false) :
    Calls Trym.prog 15 #[.int .i32 c] w fun e w' => e = .returned (.bool false) ∧ w' = w := by rw [← h]; exact isName_any c w

set_option maxHeartbeats 400000 in
theorem isWord_any (x0 x1 x2 d : Bool) (s1 s2 : ByteArray) (x6 : Bool) (c : Int) (w : World) (h0 : 0 ≤ c) (h1 : c ≤ 255) :
    Calls Trym.prog 14 #[.agg #[.bool x0, .bool x1, .bool x2, .bool d, .string s1, .string s2, .bool x6], .int .u8 c] w fun e w' => e = .returned (.bool (wordB d c)) ∧ Grown w w' := by
  cases hn : nameB c with
  | true =>
    have H := hide hn
    clear hn
    go_enter Trym.func14, Trym.ntmps14
    go_wp2_with (go_at_call 15; refine (isName_t _ _ H.out).mono ?_; rintro e w1 ⟨rfl, rfl⟩)
    go_ret
    exact ⟨ret_bool (by rw [word_of_name d c H.out]), (Grown.refl _).alloc _ _⟩
  | false =>
    have H := hide hn
    clear hn
    by_cases h2 : 128 ≤ c
    · go_enter Trym.func14, Trym.ntmps14
      go_wp2_with (go_at_call 15; refine (isName_f _ _ H.out).mono ?_; rintro e w1 ⟨rfl, rfl⟩)
      go_ret
      exact ⟨ret_bool (by rw [word_high d c h2]), (Grown.refl _).alloc _ _⟩
    · by_cases h3 : c = 36
      · subst h3
        go_enter Trym.func14, Trym.ntmps14
        go_wp2_with (go_at_call 15; refine (isName_f _ _ H.out).mono ?_; rintro e w1 ⟨rfl, rfl⟩)
        go_ret
        exact ⟨ret_bool (by rw [word_dollar d]), (Grown.refl _).alloc _ _⟩
      · have n3 : (c == 36) = false := by simpa using h3
        have H3 := hide h3
        clear h3
        go_enter Trym.func14, Trym.ntmps14
        go_wp2_with (go_at_call 15; refine (isName_f _ _ H.out).mono ?_; rintro e w1 ⟨rfl, rfl⟩)
        go_ret
        refine ⟨ret_bool ?_, (Grown.refl _).alloc _ _⟩
        rw [word_other d c H3.out]
        simp [wordB, H.out]

set_option maxHeartbeats 400000 in
theorem zzWord_any (x0 x1 x2 d : Bool) (s1 s2 : ByteArray) (x6 : Bool) (c : Int) (w : World) (h0 : 0 ≤ c) (h1 : c ≤ 255) :
    Calls Trym.prog 10 #[.bool x0, .bool x1, .bool x2, .bool d, .string s1, .string s2, .bool x6, .int .u8 c] w fun e w' => e = .returned (.bool (wordB d c)) ∧ Grown w w' := by
  go_enter Trym.func10, Trym.ntmps10
  go_wp2_with (go_at_call 14; refine (isWord_any _ _ _ _ _ _ _ _ _ h0 h1).mono ?_; rintro e w1 ⟨rfl, hg⟩)
  go_ret
  exact ⟨rfl, grown_trans ((Grown.refl _).alloc _ _) hg⟩

set_option maxHeartbeats 400000 in
theorem zzName_any (c : Int) (w : World) :
    Calls Trym.prog 12 #[.int .i32 c] w fun e w' => e = .returned (.bool (nameB c)) ∧ w' = w := by
  go_enter Trym.func12, Trym.ntmps12
  go_wp2_with (go_at_call 15; refine (isName_any _ _).mono ?_; rintro e w1 ⟨rfl, rfl⟩)
  go_ret
  exact ⟨rfl, rfl⟩

set_option maxHeartbeats 400000 in
theorem bytes9 (x0 x1 x2 d : Bool) (s1 s2 : ByteArray) (x6 : Bool) (c : Int) (w : World) (m1 : s1.size ≤ 524288) (m2 : s2.size ≤ 524288) :
    Calls Trym.prog 9 #[.bool x0, .bool x1, .bool x2, .bool d, .string s1, .string s2, .bool x6, .int .u8 c] w fun e w' => e = .returned (.bool true) ∧ w' = w := by
  go_enter Trym.func9, Trym.ntmps9
  go_wp2
  go_ret
  exact ⟨rfl, rfl⟩

set_option maxHeartbeats 400000 in
theorem bytes11 (x0 x1 x2 d : Bool) (s1 s2 : ByteArray) (x6 : Bool) (c : Int) (w : World) (m1 : s1.size ≤ 524288) (m2 : s2.size ≤ 524288) :
    Calls Trym.prog 11 #[.bool x0, .bool x1, .bool x2, .bool d, .string s1, .string s2, .bool x6, .int .u8 c] w fun e w' => e = .returned (.bool true) ∧ w' = w := by
  go_enter Trym.func11, Trym.ntmps11
  go_wp2
  go_ret
  exact ⟨rfl, rfl⟩

theorem zzWord_is (b x0 x1 x2 d : Bool) (s1 s2 : ByteArray) (x6 : Bool) (c : Int) (w : World) (h0 : 0 ≤ c) (h1 : c ≤ 255) (h : wordB d c = b) :
    Calls Trym.prog 10 #[.bool x0, .bool x1, .bool x2, .bool d, .string s1, .string s2, .bool x6, .int .u8 c] w fun e w' => e = .returned (.bool b) ∧ Grown w w' := by
  rw [← h]; exact zzWord_any x0 x1 x2 d s1 s2 x6 c w h0 h1
theorem zzName_is (b : Bool) (c : Int) (w : World) (h : nameB c = b) :
    Calls Trym.prog 12 #[.int .i32 c] w fun e w' => e = .returned (.bool b) ∧ w' = w := by
  rw [← h]; exact zzName_any c w

end Go.Proofs.Qxb6614043aMods.Bytes
