/-
  A segment in memory; ZZNewSegment.
-/
import Derived.Test.Qxb6604790aBase
import Derived.Deep.RegionHeld3
namespace Go.Proofs.Qxb6604790a
open Go.RowKit

set_option maxHeartbeats 1000000 in
theorem newSegment_any (bh bx n ch cx : Nat) (H X : Nat → Int) (obj dep sh : Int) (w : World) (hn : n ≤ 65536) (hn0 : 0 < n) (hh : Row w bh n H) (hx : Row w bx n X) :
    Calls Try.prog 14 #[.slice (some ⟨bh, 0, none⟩) n ch, .slice (some ⟨bx, 0, none⟩) n cx, .int .i64 obj, .int .u64 dep, .int .u64 sh] w fun e w' => e = .returned (.pointer (some ⟨w.heap.size + 1, 0, none⟩)) ∧ Below w.heap.size w w' ∧ w'.heap.size = w.heap.size + 2
      ∧ Tab w' w.heap.size n (fun i => (H i, X i)) ∧ Writ w' w.heap.size (n * 2) ∧ Seg w' (w.heap.size + 1) w.heap.size n obj dep sh ∧ Writ w' (w.heap.size + 1) 4 := by
  have hbh : bh < w.heap.size := by
    rcases Nat.lt_or_ge bh w.heap.size with h | h
    · exact h
    · have := hh 0 hn0
      simp [World.cell?, Array.getElem?_eq_none h] at this
  have hbx : bx < w.heap.size := by
    rcases Nat.lt_or_ge bx w.heap.size with h | h
    · exact h
    · have := hx 0 hn0
      simp [World.cell?, Array.getElem?_eq_none h] at this
  have hmk := mk63 n (by omega)
  go_enter Try.func14, Try.ntmps14
  go_wp2
  go_loopw [23] (fun i wr => ∃ k : Nat, k ≤ n ∧ i = .int .i64 k ∧ Below w.heap.size w wr ∧ wr.heap.size = w.heap.size + 2 ∧ Writ wr w.heap.size (n * 2) ∧ Tab wr w.heap.size k (fun i => (H i, X i)) ∧ Seg wr (w.heap.size + 1) w.heap.size n obj dep sh ∧ Writ wr (w.heap.size + 1) 4) (fun i _ => n - (intOf i).toNat)
  case atStart =>
    refine ⟨0, Nat.zero_le _, rfl, ((Below.refl _ _).alloc (Nat.le_refl _) _).alloc (by simp) _, by simp, (Writ.alloc2 _ _ _).keep (Keeps.alloc _ _ (by simp)), fun j hj => absurd hj (Nat.not_lt_zero _), ?_, ?_⟩
    · refine ⟨?_, ?_, ?_, ?_⟩ <;> (rw [World.cell?_alloc_at _ _ _ _ (by simp)]; rfl)
    · intro j hj
      refine ⟨?_, ?_⟩
      · rw [World.cell?_alloc_at _ _ _ _ (by simp)]
        match j, hj with
        | 0, _ => exact ⟨_, rfl⟩
        | 1, _ => exact ⟨_, rfl⟩
        | 2, _ => exact ⟨_, rfl⟩
        | 3, _ => exact ⟨_, rfl⟩
      · simp
  case round =>
    obtain ⟨k, hk, rfl, hbw, hsz, hwr, htab, hseg, hwg⟩ := hrel
    by_cases hlt : k < n
    · have hhk : wr.cell? ⟨bh, k, none⟩ = some (.int .u32 (H k)) := by rw [hbw.cell (p := ⟨bh, k, none⟩) hbh]; exact hh k hlt
      have hxk : wr.cell? ⟨bx, k, none⟩ = some (.int .u32 (X k)) := by rw [hbw.cell (p := ⟨bx, k, none⟩) hbx]; exact hx k hlt
      obtain ⟨⟨u, hu⟩, hf⟩ := hwr (k * 2) (by omega)
      obtain ⟨⟨u', hu'⟩, hf'⟩ := hwr (k * 2 + 1) (by omega)
      have hs0 := hseg.1
      have hn1 : w.heap.size ≠ bh := by omega
      have hn2 : w.heap.size ≠ bx := by omega
      have h0 : (0 : Int) ≤ (k : Int) := by omega
      have h1 : (k : Int) < (n : Int) := by omega
      have HS : Hid (wr.heap.size = w.heap.size + 2) := hsz
      clear hh hx hsz hmk
      go_wp2
      go_region_held3 (fun w' => w'.cell? ⟨w.heap.size + 1, 0, none⟩ = some (.slice (some ⟨w.heap.size, 0, none⟩) n n) ∧ w'.cell? ⟨bh, k, none⟩ = some (.int .u32 (H k)) ∧ w'.cell? ⟨bx, k, none⟩ = some (.int .u32 (X k))) (go_keep) (fail)
      all_goals go_wp2
      go_roundw
      case rel =>
        refine ⟨k + 1, by omega, by go_num, (put2_below hbw (Nat.le_refl _) k (H k, X k)).drew, ?_, put2_writ hwr _ k (H k, X k), htab.snoc hwr hlt, hseg.keep (put2_keeps wr _ k (H k, X k) (by omega)), put2_writ hwg _ k (H k, X k)⟩
        exact (put2_size wr w.heap.size k (H k, X k)).trans HS.out
      case measure => simp [intOf]; omega
    · have hkn : k = n := by omega
      subst hkn
      have HS : Hid (wr.heap.size = w.heap.size + 2) := hsz
      clear hsz hmk hh hx
      go_wp2
      go_ret
      exact ⟨rfl, hbw, HS.out, htab, hwr, hseg, hwg⟩
end Go.Proofs.Qxb6604790a
