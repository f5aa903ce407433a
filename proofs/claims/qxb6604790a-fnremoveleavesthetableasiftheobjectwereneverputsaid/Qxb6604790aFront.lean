/-
  zzl1Clone at whatever slice came in; the law where it answers at once.
-/
import Derived.Test.Qxb6604790aClone
import Derived.Test.Qxb6604790aValid
import Derived.WideShapes
namespace Go.Proofs.Qxb6604790a
open Go.RowKit
set_option maxRecDepth 100000

/-- What came in: nil, or a row of uint32s. -/
def Came (w : World) (a : Option Addr) (n c : Nat) (A : Nat → Int) : Prop :=
  (a = none ∧ n = 0 ∧ c = 0) ∨ ∃ x, a = some x ∧ ∀ i, i < n → w.cell? (x.add i) = some (.int .u32 (A i))
/-- What a clone is. -/
def Cloned (w : World) (n : Nat) (A : Nat → Int) (a' : Option Addr) (w' : World) : Prop :=
  Below w.heap.size w w' ∧ (0 < n → a' = some ⟨w.heap.size, 0, none⟩ ∧ w'.heap.size = w.heap.size + 1 ∧ Row w' w.heap.size n A)

theorem Came.below {w w' : World} {a : Option Addr} {n c : Nat} {A : Nat → Int} (h : Came w a n c A) (hb : Below w.heap.size w w') : Came w' a n c A := by
  rcases h with h | ⟨x, h1, h2⟩
  · exact .inl h
  · refine .inr ⟨x, h1, fun i hi => ?_⟩
    have hx : (x.add i).block < w.heap.size := by
      rcases Nat.lt_or_ge (x.add i).block w.heap.size with q | q
      · exact q
      · have := h2 i hi
        simp [World.cell?, Array.getElem?_eq_none q] at this
    rw [hb.cell hx]
    exact h2 i hi

theorem clone_gen (a : Option Addr) (n c : Nat) (A : Nat → Int) (w : World) (hn : n ≤ 65536) (h : Came w a n c A) :
    Calls Try.prog 9 #[.slice a n c] w fun ev w' => ∃ a', ev = .returned (.slice a' n n) ∧ Cloned w n A a' w' := by
  rcases h with ⟨rfl, rfl, rfl⟩ | ⟨x, rfl, hc⟩
  · refine (clone_nil w).mono ?_
    rintro ev w' ⟨rfl, rfl⟩
    exact ⟨none, rfl, Below.refl _ _, fun h => absurd h (Nat.lt_irrefl _)⟩
  · by_cases h0 : n = 0
    · subst h0
      refine (clone_empty x c w).mono ?_
      rintro ev w' ⟨rfl, hb⟩
      exact ⟨_, rfl, hb, fun h => absurd h (Nat.lt_irrefl _)⟩
    · obtain ⟨b, off, spot⟩ := x
      have hspot : spot = none := by simpa [Addr.add] using World.cell?_spot (hc 0 (by omega))
      subst hspot
      refine (clone_any b off n c A w hn (fun i hi => by rw [← WideShapes.add_plain]; exact hc i hi) (by omega)).mono ?_
      rintro ev w' ⟨rfl, hb, hs, hr⟩
      exact ⟨_, rfl, hb, fun _ => ⟨rfl, hs, hr⟩⟩

theorem law_big (a0 a1 : Option Addr) (n0 c0 n1 c1 : Nat) (a2 a3 a4 a5 a6 : Int) (w : World) (h0 : n0 ≤ maxLen) (h1 : n1 ≤ maxLen) (h : ¬ n0 + n1 ≤ 1048576) :
    Calls Try.prog 5 #[.slice a0 n0 c0, .slice a1 n1 c1, .int .i64 a2, .int .u64 a3, .int .u64 a4, .int .i64 a5, .int .i64 a6] w fun e w' => e = .returned (.bool true) ∧ Below w.heap.size w w' := by
  have c := bytes_no a0 a1 n0 c0 n1 c1 a2 a3 a4 a5 a6 w h0 h1 h
  go_enter Try.func5, Try.ntmps5
  go_wp2_with fail
  refine c.mono ?_
  rintro ev w1 ⟨rfl, hw1⟩
  obtain rfl : w1 = w := hw1
  go_wp2
  go_ret
  exact ⟨rfl, Below.refl _ _⟩
theorem law_long (a0 a1 : Option Addr) (n0 c0 n1 c1 : Nat) (a2 a3 a4 a5 a6 : Int) (w : World) (h : n0 + n1 ≤ 1048576) (hl : ¬ (n0 ≤ 65536 ∧ n1 ≤ 65536)) :
    Calls Try.prog 5 #[.slice a0 n0 c0, .slice a1 n1 c1, .int .i64 a2, .int .u64 a3, .int .u64 a4, .int .i64 a5, .int .i64 a6] w fun e w' => e = .returned (.bool true) ∧ Below w.heap.size w w' := by
  have c := bytes_ok a0 a1 n0 c0 n1 c1 a2 a3 a4 a5 a6 w h
  by_cases h0 : n0 ≤ 65536
  · have h1 : ¬ n1 ≤ 65536 := fun q => hl ⟨h0, q⟩
    go_enter Try.func5, Try.ntmps5
    go_wp2_with fail
    refine c.mono ?_
    rintro ev w1 ⟨rfl, hw1⟩
    obtain rfl : w1 = w := hw1
    go_wp2
    go_ret
    exact ⟨rfl, Below.refl _ _⟩
  · go_enter Try.func5, Try.ntmps5
    go_wp2_with fail
    refine c.mono ?_
    rintro ev w1 ⟨rfl, hw1⟩
    obtain rfl : w1 = w := hw1
    go_wp2
    go_ret
    exact ⟨rfl, Below.refl _ _⟩
theorem law_odd (a0 a1 : Option Addr) (n0 c0 n1 c1 : Nat) (a2 a3 a4 a5 a6 : Int) (A0 A1 : Nat → Int) (w : World) (h0 : n0 ≤ 65536) (h1 : n1 ≤ 65536) (r0 : Came w a0 n0 c0 A0) (r1 : Came w a1 n1 c1 A1) (hne : n0 ≠ n1 ∨ (n0 = 0 ∧ n1 = 0)) :
    Calls Try.prog 5 #[.slice a0 n0 c0, .slice a1 n1 c1, .int .i64 a2, .int .u64 a3, .int .u64 a4, .int .i64 a5, .int .i64 a6] w fun e w' => e = .returned (.bool true) ∧ Below w.heap.size w w' := by
  have c := bytes_ok a0 a1 n0 c0 n1 c1 a2 a3 a4 a5 a6 w (by omega)
  go_enter Try.func5, Try.ntmps5
  go_wp2_with fail
  refine c.mono ?_
  rintro ev w1 ⟨rfl, hw1⟩
  obtain rfl : w1 = w := hw1
  clear c
  go_wp2_with fail
  refine (clone_gen a0 n0 c0 A0 w1 h0 r0).mono ?_
  rintro ev w2 ⟨b0, rfl, hb2, _⟩
  have HB2 : Hid (Below w1.heap.size w1 w2) := hb2
  clear hb2
  go_wp2_with fail
  refine (clone_gen a1 n1 c1 A1 w2 h1 (r1.below HB2.out)).mono ?_
  rintro ev w3 ⟨b1, rfl, hb3, _⟩
  have HB3 : Hid (Below w1.heap.size w1 w3) := HB2.out.trans (hb3.mono HB2.out.size)
  clear hb3
  have cd : Calls Try.prog 10 #[.slice b0 n0 n0, .slice b1 n1 n1, .int .u64 a4, .int .i64 1] w3 fun ev w' => ev = .returned (.bool false) ∧ w' = w3 := by
    rcases hne with hne | ⟨rfl, rfl⟩
    · exact domain_lens b0 b1 n0 n0 n1 n1 a4 w3 hne
    · exact domain_zero b0 b1 0 0 a4 w3
  clear hne r0 r1
  go_wp2_with fail
  refine cd.mono ?_
  rintro ev w4 ⟨rfl, hw4⟩
  obtain rfl : w4 = w3 := hw4
  clear cd
  go_wp2
  go_ret
  exact ⟨rfl, HB3.out⟩
end Go.Proofs.Qxb6604790a
