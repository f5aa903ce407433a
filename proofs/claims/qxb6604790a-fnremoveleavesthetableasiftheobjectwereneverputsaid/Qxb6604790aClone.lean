/-
  zzl1Clone: a new row with the same numbers.
-/
import Derived.Test.Qxb6604790aBase
namespace Go.Proofs.Qxb6604790a
open Go.RowKit

theorem clone_nil (w : World) : Calls Try.prog 9 #[.slice none 0 0] w fun e w' => e = .returned (.slice none 0 0) ∧ w' = w := by
  have heq := eq35
  go_enter Try.func9, Try.ntmps9
  go_wp2
  go_ret
  exact ⟨rfl, rfl⟩

theorem clone_empty (a : Addr) (c : Nat) (w : World) : Calls Try.prog 9 #[.slice (some a) 0 c] w fun e w' => e = .returned (.slice (some ⟨w.heap.size, 0, none⟩) 0 0) ∧ Below w.heap.size w w' := by
  have hmk : ∀ W, (Instr.makeSlice 35 (.int .i64 0) (.int .i64 0)).run Try.prog W = .ok (.slice (some ⟨W.heap.size, 0, none⟩) 0 0) (W.alloc (.cells (zs1 0) 40)) := mk35 0 (by omega)
  have heq := eq35
  go_enter Try.func9, Try.ntmps9
  go_wp2
  go_loopw [4] (fun i wr => i = .int .i64 0 ∧ Below w.heap.size w wr) (fun _ _ => 0)
  case atStart => exact ⟨rfl, (Below.refl _ _).alloc (Nat.le_refl _) _⟩
  case round =>
    obtain ⟨rfl, hb⟩ := hrel
    go_wp2
    go_ret
    exact ⟨rfl, hb⟩

set_option maxHeartbeats 400000 in
theorem clone_any (b off n c : Nat) (A : Nat → Int) (w : World) (hn : n ≤ 65536) (hc : ∀ i, i < n → w.cell? ⟨b, off + i, none⟩ = some (.int .u32 (A i))) (hn0 : 0 < n) :
    Calls Try.prog 9 #[.slice (some ⟨b, off, none⟩) n c] w fun e w' => e = .returned (.slice (some ⟨w.heap.size, 0, none⟩) n n) ∧ Below w.heap.size w w' ∧ w'.heap.size = w.heap.size + 1 ∧ Row w' w.heap.size n A := by
  have hbl : b < w.heap.size := by
    rcases Nat.lt_or_ge b w.heap.size with h | h
    · exact h
    · have := hc 0 hn0
      simp [World.cell?, Array.getElem?_eq_none h] at this
  have hmk := mk35 n (by omega)
  have heq := eq35
  go_enter Try.func9, Try.ntmps9
  go_wp2
  go_loopw [4] (fun i wr => ∃ k : Nat, k ≤ n ∧ i = .int .i64 k ∧ Below w.heap.size w wr ∧ wr.heap.size = w.heap.size + 1 ∧ Writ wr w.heap.size n ∧ Row wr w.heap.size k A) (fun i _ => n - (intOf i).toNat)
  case atStart => exact ⟨0, Nat.zero_le _, rfl, (Below.refl _ _).alloc (Nat.le_refl _) _, by simp, Writ.alloc1 _ _ _, fun j hj => absurd hj (Nat.not_lt_zero _)⟩
  case round =>
    obtain ⟨k, hk, rfl, hbw, hsz, hwr, hrow⟩ := hrel
    by_cases hlt : k < n
    · have hck : wr.cell? ⟨b, off + k, none⟩ = some (.int .u32 (A k)) := by rw [hbw.cell (p := ⟨b, off + k, none⟩) hbl]; exact hc k hlt
      obtain ⟨⟨u, hu⟩, hf⟩ := hwr k hlt
      have HS : Hid (wr.heap.size = w.heap.size + 1) := hsz
      clear hc hsz hmk heq
      go_wp2
      go_roundw
      case rel => exact ⟨k + 1, by omega, by go_num, hbw.setCell (Nat.le_refl _) _, by simpa using HS.out, hwr.set _ _, hrow.snoc hwr hlt⟩
      case measure => simp [intOf]; omega
    · have hkn : k = n := by omega
      subst hkn
      have HS : Hid (wr.heap.size = w.heap.size + 1) := hsz
      clear hsz hmk heq
      go_wp2
      go_ret
      exact ⟨rfl, hbw, HS.out, hrow⟩
end Go.Proofs.Qxb6604790a
