/-
  The walks: '(Mode).String' computes 'Plain.modeText'; the law computes true.
-/
import Derived.Test.Qxb6604495aDoorShelf
import Derived.Test.Qxb6604495aDoorPlain
import Derived.Lib.AppendIntMem
import Derived.Lib.ItoaLen
import Derived.Lib.SmallJoins
import Derived.WalkKit
namespace Go.Proofs.Qxb6604495aDoor
open Go.RowKit Go.Lib Go.Joins

theorem text_mid (l : List UInt8) : ByteArray.mk #[77, 111, 100, 101, 40] ++ ByteArray.mk l.toArray ++ ByteArray.mk #[41] = ByteArray.mk ([77, 111, 100, 101, 40] ++ l ++ [41]).toArray := by
  apply ByteArray.ext
  simp

set_option maxHeartbeats 400000 in
theorem mode_string (m : Int) (h0 : -9223372036854775808 ≤ m) (h1 : m ≤ 9223372036854775807) (w : World)
    (htab : Lib.TabIs Tryd.prog w tabName .u64 Lib.pow10Tab) :
    Calls Tryd.prog 10 #[.int .i64 m] w fun e w' => e = .returned (.string ⟨(Plain.modeText m).toArray⟩) ∧ Below w.heap.size w w' := by
  by_cases m0 : m = 0
  · subst m0
    go_enter Tryd.func10, Tryd.ntmps10
    go_wp2
    go_ret
    exact ⟨rfl, Below.refl _ _⟩
  · by_cases m1 : m = 1
    · subst m1
      go_enter Tryd.func10, Tryd.ntmps10
      go_wp2
      go_ret
      exact ⟨rfl, Below.refl _ _⟩
    · have e0 : (m == 0) = false := by simpa using m0
      have e1 : (m == 1) = false := by simpa using m1
      have c := Tryd.strconv_Itoa m h0 h1 w htab
      have hl : (ByteArray.mk (Go.Lib.itoa m).toArray).size ≤ 21 := by
        show (Go.Lib.itoa m).toArray.size ≤ 21
        rw [List.size_toArray]
        exact Go.Lib.itoa_length_le m h0 h1
      have ht : ByteArray.mk (Plain.modeText m).toArray = ByteArray.mk #[77, 111, 100, 101, 40] ++ ByteArray.mk (Go.Lib.itoa m).toArray ++ ByteArray.mk #[41] := by
        rw [Plain.modeText, if_neg m0, if_neg m1, text_mid]
      rw [ht]
      clear ht m0 m1
      generalize ByteArray.mk (Go.Lib.itoa m).toArray = s at *
      go_enter Tryd.func10, Tryd.ntmps10
      go_wp2_with fail
      refine c.mono ?_
      rintro e w' ⟨rfl, k, os, rfl⟩
      go_wp2
      go_ret
      exact ⟨rfl, below_grow _ _ (Nat.le_refl _) _ _⟩

theorem tab_global : Tryd.prog.globalNamed tabName = some 0 := by kernel_rfl

theorem text_ne {a b : Int} (h : a ≠ b) : ((ByteArray.mk (Plain.modeText a).toArray).toList == (ByteArray.mk (Plain.modeText b).toArray).toList) = false := by
  rw [ByteArray.toList_eq, ByteArray.toList_eq, beq_eq_false_iff_ne]
  exact fun e => h (Plain.modeText_inj e)

set_option maxHeartbeats 400000 in
theorem law (a b : Int) (ha0 : -9223372036854775808 ≤ a) (ha1 : a ≤ 9223372036854775807) (hb0 : -9223372036854775808 ≤ b) (hb1 : b ≤ 9223372036854775807) (w : World)
    (htab : Lib.TabIs Tryd.prog w tabName .u64 Lib.pow10Tab) :
    Calls Tryd.prog 6 #[.int .i64 a, .int .i64 b] w fun e w' => e = .returned (.bool true) ∧ Below w.heap.size w w' := by
  by_cases hab : a = b
  · subst hab
    go_enter Tryd.func6, Tryd.ntmps6
    go_wp2
    go_ret
    exact ⟨rfl, Below.refl _ _⟩
  · have e0 : (a == b) = false := by simpa using hab
    have hne := text_ne hab
    have ca := mode_string a ha0 ha1 w htab
    go_enter Tryd.func6, Tryd.ntmps6
    go_wp2_with fail
    refine ca.mono ?_
    rintro e w1 ⟨rfl, hb1'⟩
    have cb := mode_string b hb0 hb1 w1 (tab_stays tab_global htab hb1' (Nat.le_refl _))
    go_wp2_with fail
    refine cb.mono ?_
    rintro e w2 ⟨rfl, hb2⟩
    generalize ByteArray.mk (Plain.modeText a).toArray = ta at *
    generalize ByteArray.mk (Plain.modeText b).toArray = tb at *
    go_wp2
    go_ret
    exact ⟨rfl, hb1'.trans (hb2.mono hb1'.size)⟩

end Go.Proofs.Qxb6604495aDoor
