/-
  The table of names: what it holds, and that no two numbers share a name. The walks: classNamed, enumName, (Class).String, the law.
-/
import Derived.Test.Qxb6612447aFmtProg
import Derived.WalkKit
import Derived.Below
namespace Go.Proofs.Qxb6612447aFmt
open Go.RowKit

/-- The names, in the order of their numbers; the number 0 has none. -/
def names : List (List UInt8) := [[], [71, 48], [71, 49, 97], [71, 49, 98], [71, 49, 99], [71, 45, 115, 105, 110, 103, 108, 101], [71, 50, 45, 105, 116, 101, 109], [105, 110, 116, 101, 114, 110, 97, 108], [100, 117, 112, 108, 105, 99, 97, 116, 101], [103, 97, 114, 98, 97, 103, 101], [105, 110, 99, 111, 109, 112, 97, 116, 105, 98, 108, 101, 45, 111, 114, 100, 101, 114], [108, 111, 115, 116, 45, 117, 112, 100, 97, 116, 101]]
/-- The name of a number, as a string. -/
def nm (i : Nat) : ByteArray := ⟨(names.getD i []).toArray⟩

theorem names_full : ∀ i : Fin 12, i.val ≠ 0 → names.getD i.val [] ≠ [] := by decide
theorem names_apart : ∀ i j : Fin 12, i.val ≠ 0 → j.val ≠ 0 → names.getD i.val [] = names.getD j.val [] → i = j := by decide

theorem nm_list (i : Nat) : (nm i).toList = names.getD i [] := by rw [ByteArray.toList_eq]; rfl
theorem nm_full (i : Nat) (h0 : 1 ≤ i) (h1 : i ≤ 11) : ((nm i).toList == []) = false := by
  rw [nm_list, beq_eq_false_iff_ne]
  exact names_full ⟨i, by omega⟩ (by show i ≠ 0; omega)
theorem nm_apart (i j : Nat) (h0 : 1 ≤ i) (h1 : i ≤ 11) (h2 : 1 ≤ j) (h3 : j ≤ 11) : ((nm i).toList == (nm j).toList) = decide (i = j) := by
  rw [nm_list, nm_list]
  by_cases e : i = j
  · subst e; simp
  · rw [decide_eq_false e, beq_eq_false_iff_ne]
    intro h
    have := names_apart ⟨i, by omega⟩ ⟨j, by omega⟩ (by show i ≠ 0; omega) (by show j ≠ 0; omega) h
    exact e (congrArg Fin.val this)

theorem named_yes (c : Int) (w : World) (h0 : 1 ≤ c) (h1 : c ≤ 11) : Calls Tryf.prog 4 #[.int .u8 c] w fun e w' => e = .returned (.bool true) ∧ w' = w := by
  go_enter Tryf.func4, Tryf.ntmps4
  go_wp2
  go_ret
  exact ⟨rfl, rfl⟩
theorem named_no (c : Int) (w : World) (h : ¬ (1 ≤ c ∧ c ≤ 11)) : Calls Tryf.prog 4 #[.int .u8 c] w fun e w' => e = .returned (.bool false) ∧ w' = w := by
  by_cases h0 : 1 ≤ c
  · have h1 : ¬ c ≤ 11 := fun q => h ⟨h0, q⟩
    go_enter Tryf.func4, Tryf.ntmps4
    go_wp2
    go_ret
    exact ⟨rfl, rfl⟩
  · go_enter Tryf.func4, Tryf.ntmps4
    go_wp2
    go_ret
    exact ⟨rfl, rfl⟩

theorem enumName_any (i : Nat) (w : World) (h0 : 1 ≤ i) (h1 : i ≤ 11) (hc : w.cell? ⟨0, i, none⟩ = some (.string (nm i))) :
    Calls Tryf.prog 6 #[.slice (some ⟨0, 0, none⟩) 12 12, .int .u8 i] w fun e w' => e = .returned (.string (nm i)) ∧ w' = w := by
  have hf := nm_full i h0 h1
  have h2 : (0 : Int) ≤ (i : Int) := by omega
  have h3 : (i : Int) < 12 := by omega
  generalize nm i = s at *
  go_enter Tryf.func6, Tryf.ntmps6
  go_wp2
  go_ret
  exact ⟨rfl, rfl⟩
theorem string_any (i : Nat) (w : World) (h0 : 1 ≤ i) (h1 : i ≤ 11) (hc : w.cell? ⟨0, i, none⟩ = some (.string (nm i))) :
    Calls Tryf.prog 5 #[.int .u8 i] w fun e w' => e = .returned (.string (nm i)) ∧ w' = w := by
  have c := enumName_any i w h0 h1 hc
  go_enter Tryf.func5, Tryf.ntmps5
  go_wp2_with fail
  refine c.mono ?_
  rintro e w1 ⟨rfl, hw1⟩
  obtain rfl : w1 = w := hw1
  go_wp2
  go_ret
  exact ⟨rfl, rfl⟩

theorem law (c d : Int) (w : World) (hc0 : 0 ≤ c) (hd0 : 0 ≤ d) (hn : ∀ i, i < 12 → w.cell? ⟨0, i, none⟩ = some (.string (nm i))) :
    Calls Tryf.prog 3 #[.int .u8 c, .int .u8 d] w fun e w' => e = .returned (.bool true) ∧ w' = w := by
  by_cases hc : 1 ≤ c ∧ c ≤ 11
  · have cc := named_yes c w hc.1 hc.2
    by_cases hd : 1 ≤ d ∧ d ≤ 11
    · have cd := named_yes d w hd.1 hd.2
      obtain ⟨i, rfl⟩ := Int.eq_ofNat_of_zero_le hc0
      obtain ⟨j, rfl⟩ := Int.eq_ofNat_of_zero_le hd0
      have ci := string_any i w (by omega) (by omega) (hn i (by omega))
      have cj := string_any j w (by omega) (by omega) (hn j (by omega))
      have fi := nm_full i (by omega) (by omega)
      have fj := nm_full j (by omega) (by omega)
      have fij := nm_apart i j (by omega) (by omega) (by omega) (by omega)
      clear hn hc hd hc0 hd0
      generalize nm i = si at *
      generalize nm j = sj at *
      by_cases eij : i = j
      · have hs : (si.toList == sj.toList) = true := by rw [fij]; exact decide_eq_true eij
        subst eij
        clear fij
        go_enter Tryf.func3, Tryf.ntmps3
        go_wp2_with fail
        refine cc.mono ?_
        rintro e w1 ⟨rfl, hw1⟩
        obtain rfl : w1 = w := hw1
        go_wp2_with fail
        refine cd.mono ?_
        rintro e w2 ⟨rfl, hw2⟩
        obtain rfl : w2 = w1 := hw2
        go_wp2_with fail
        refine ci.mono ?_
        rintro e w3 ⟨rfl, hw3⟩
        obtain rfl : w3 = w2 := hw3
        go_wp2_with fail
        refine cj.mono ?_
        rintro e w4 ⟨rfl, hw4⟩
        obtain rfl : w4 = w3 := hw4
        go_wp2
        go_ret
        exact ⟨rfl, rfl⟩
      · have hs : (si.toList == sj.toList) = false := by rw [fij]; exact decide_eq_false eij
        have hij : ((i : Int) == (j : Int)) = false := by simp; omega
        clear fij
        go_enter Tryf.func3, Tryf.ntmps3
        go_wp2_with fail
        refine cc.mono ?_
        rintro e w1 ⟨rfl, hw1⟩
        obtain rfl : w1 = w := hw1
        go_wp2_with fail
        refine cd.mono ?_
        rintro e w2 ⟨rfl, hw2⟩
        obtain rfl : w2 = w1 := hw2
        go_wp2_with fail
        refine ci.mono ?_
        rintro e w3 ⟨rfl, hw3⟩
        obtain rfl : w3 = w2 := hw3
        go_wp2_with fail
        refine cj.mono ?_
        rintro e w4 ⟨rfl, hw4⟩
        obtain rfl : w4 = w3 := hw4
        go_wp2
        go_ret
        exact ⟨rfl, rfl⟩
    · have cd := named_no d w hd
      clear hn hc hd
      go_enter Tryf.func3, Tryf.ntmps3
      go_wp2_with fail
      refine cc.mono ?_
      rintro e w1 ⟨rfl, hw1⟩
      obtain rfl : w1 = w := hw1
      go_wp2_with fail
      refine cd.mono ?_
      rintro e w2 ⟨rfl, hw2⟩
      obtain rfl : w2 = w1 := hw2
      go_wp2
      go_ret
      exact ⟨rfl, rfl⟩
  · have cc := named_no c w hc
    clear hn hc
    go_enter Tryf.func3, Tryf.ntmps3
    go_wp2_with fail
    refine cc.mono ?_
    rintro e w1 ⟨rfl, hw1⟩
    obtain rfl : w1 = w := hw1
    go_wp2
    go_ret
    exact ⟨rfl, rfl⟩
end Go.Proofs.Qxb6612447aFmt
