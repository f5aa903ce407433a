/-
  ZZSegmentFields: the heads and the hashes of a segment's slots, in two new rows; its other fields.
-/
import Derived.Test.Qxb6604790aBase
namespace Go.Proofs.Qxb6604790a
open Go.RowKit

set_option maxHeartbeats 1000000 in
theorem fields_any (g b n : Nat) (T : Nat → Int × Int) (obj dep sh : Int) (w : World) (hn : n ≤ 65536) (hn0 : 0 < n) (hseg : Seg w g b n obj dep sh) (htab : Tab w b n T) :
    Calls Try.prog 17 #[.pointer (some ⟨g, 0, none⟩)] w fun e w' => e = .returned (.tuple #[.slice (some ⟨w.heap.size, 0, none⟩) n n, .slice (some ⟨w.heap.size + 1, 0, none⟩) n n, .int .i64 obj, .int .u64 dep, .int .u64 sh]) ∧ Below w.heap.size w w' ∧ w'.heap.size = w.heap.size + 2
      ∧ Row w' w.heap.size n (fun i => (T i).1) ∧ Row w' (w.heap.size + 1) n (fun i => (T i).2) := by
  have hg : g < w.heap.size := by
    rcases Nat.lt_or_ge g w.heap.size with h | h
    · exact h
    · have := hseg.1
      simp [World.cell?, Array.getElem?_eq_none h] at this
  have hb : b < w.heap.size := by
    rcases Nat.lt_or_ge b w.heap.size with h | h
    · exact h
    · have := (htab 0 hn0).1
      simp [World.cell?, Array.getElem?_eq_none h] at this
  have hmk := mk35 n (by omega)
  have hs0 := hseg.1
  have hs0' := (hseg.keep (Keeps.alloc w (.cells (zs1 n) 40) hg)).1
  go_enter Try.func17, Try.ntmps17
  go_wp2
  go_loopw [25] (fun i wr => ∃ k : Nat, k ≤ n ∧ i = .int .i64 k ∧ Below w.heap.size w wr ∧ wr.heap.size = w.heap.size + 2 ∧ Writ wr w.heap.size n ∧ Writ wr (w.heap.size + 1) n ∧ Row wr w.heap.size k (fun i => (T i).1) ∧ Row wr (w.heap.size + 1) k (fun i => (T i).2)) (fun i _ => n - (intOf i).toNat)
  case atStart =>
    refine ⟨0, Nat.zero_le _, rfl, ((Below.refl _ _).alloc (Nat.le_refl _) _).alloc (by simp) _, by simp, (Writ.alloc1 _ _ _).keep (Keeps.alloc _ _ (by simp)), ?_, fun j hj => absurd hj (Nat.not_lt_zero _), fun j hj => absurd hj (Nat.not_lt_zero _)⟩
    have := Writ.alloc1 (w.alloc (.cells (zs1 n) 40)) n 40
    simpa using this
  case round =>
    obtain ⟨k, hk, rfl, hbw, hsz, hw0, hw1, hr0, hr1⟩ := hrel
    have HS : Hid (wr.heap.size = w.heap.size + 2) := hsz
    have hsegr := hseg.keep (Keeps.of_below hbw hg)
    have hs0r := hsegr.1
    clear hsz hmk hs0 hs0'
    by_cases hlt : k < n
    · have ht := (htab.keep (Keeps.of_below hbw hb)) k hlt
      have ht0 := ht.1
      have ht1 := ht.2
      obtain ⟨⟨u, hu⟩, hf⟩ := hw0 k hlt
      obtain ⟨⟨u', hu'⟩, hf'⟩ := hw1 k hlt
      have hn1 : w.heap.size ≠ g := by omega
      have hn2 : w.heap.size ≠ b := by omega
      clear ht
      go_wp2
      go_roundw
      case rel =>
        refine ⟨k + 1, by omega, by go_num, (hbw.setCell (p := ⟨w.heap.size, k, none⟩) (Nat.le_refl _) _).setCell (p := ⟨w.heap.size + 1, k, none⟩) (by simp) _, by simpa using HS.out, (hw0.set _ _).set _ _, (hw1.set _ _).set _ _, ?_, ?_⟩
        · exact (hr0.snoc hw0 hlt).set_far ⟨w.heap.size + 1, k, none⟩ _ (by simp)
        · exact (hr1.set_far ⟨w.heap.size, k, none⟩ (.int .u32 (T k).1) (by simp)).snoc (hw1.set _ _) hlt
      case measure => simp [intOf]; omega
    · have hkn : k = n := by omega
      subst hkn
      have hs1r := hsegr.2.1
      have hs2r := hsegr.2.2.1
      have hs3r := hsegr.2.2.2
      go_wp2
      go_quiet (fail)
      go_wp2
      exact bodyPost_ret (v := .tuple #[.slice (some ⟨w.heap.size, 0, none⟩) k k, .slice (some ⟨w.heap.size + 1, 0, none⟩) k k, .int .i64 obj, .int .u64 dep, .int .u64 sh]) (by simp [results, Try.results17, go_sem]) rfl
        ⟨rfl, ⟨hbw.os, hbw.tape, hbw.output, hbw.size, hbw.block⟩, HS.out, hr0, hr1⟩
end Go.Proofs.Qxb6604790a
