/-
  (segment).home, ZZHome; (segment).size, newSegment, ZZEmptySegment; ZZNewSlots, ZZSlotsFields.
-/
import Derived.Test.Qxb6604790aBase
import Derived.Test.Qxb6604790aScan
namespace Go.Proofs.Qxb6604790a
open Go.RowKit

/-- The place where the probe for a hash begins, in a table of 2^p slots. -/
def hm (p : Nat) (x : Int) : Nat := (x * 2654435761 % 4294967296 / 2 ^ (32 - p)).toNat

theorem hm_lt (p : Nat) (x : Int) (hp : p ≤ 16) : hm p x < 2 ^ p := by
  have h0 : 0 ≤ x * 2654435761 % 4294967296 := Int.emod_nonneg _ (by decide)
  have h1 : x * 2654435761 % 4294967296 < 4294967296 := Int.emod_lt_of_pos _ (by decide)
  unfold hm
  generalize x * 2654435761 % 4294967296 = y at *
  obtain ⟨m, rfl⟩ := Int.eq_ofNat_of_zero_le h0
  have e : ((m : Int) / 2 ^ (32 - p)).toNat = m / 2 ^ (32 - p) := by
    rw [show (2 : Int) ^ (32 - p) = ((2 ^ (32 - p) : Nat) : Int) by rw [Int.natCast_pow]; rfl, ← Int.natCast_ediv, Int.toNat_natCast]
  rw [e]
  refine Nat.div_lt_of_lt_mul ?_
  rw [← Nat.pow_add, show 32 - p + p = 32 by omega]
  have : (2 : Nat) ^ 32 = 4294967296 := by decide
  omega

theorem hm_wrap (p : Nat) (x : Int) : wrap64 (x * 2654435761 % 4294967296 / 2 ^ (32 - p)) = (hm p x : Int) := by
  have h0 : 0 ≤ x * 2654435761 % 4294967296 := Int.emod_nonneg _ (by decide)
  have h1 : x * 2654435761 % 4294967296 < 4294967296 := Int.emod_lt_of_pos _ (by decide)
  unfold hm
  generalize x * 2654435761 % 4294967296 = y at *
  have hp : (0 : Int) < 2 ^ (32 - p) := Int.pow_pos (by decide)
  have h2 : 0 ≤ y / 2 ^ (32 - p) := Int.ediv_nonneg h0 (by omega)
  have h3 : y / 2 ^ (32 - p) ≤ y := Int.ediv_le_self _ h0
  rw [Int.toNat_of_nonneg h2]
  generalize y / 2 ^ (32 - p) = z at *
  unfold wrap64
  omega

theorem home_any (g p : Nat) (x : Int) (w : World) (hp : p ≤ 16) (hs : w.cell? ⟨g, 3, none⟩ = some (.int .u64 (32 - (p : Int)))) :
    Calls Try.prog 30 #[.pointer (some ⟨g, 0, none⟩), .int .u32 x] w fun e w' => e = .returned (.int .i64 (hm p x)) ∧ w' = w := by
  have H : Hid (wrap64 (x * 2654435761 % 4294967296 / 2 ^ (32 - p)) = (hm p x : Int)) := hm_wrap p x
  go_enter Try.func30, Try.ntmps30
  go_wp2
  go_ret
  exact ⟨ret_int H.out, rfl⟩
theorem zzHome_any (g p : Nat) (x : Int) (w : World) (hp : p ≤ 16) (hs : w.cell? ⟨g, 3, none⟩ = some (.int .u64 (32 - (p : Int)))) :
    Calls Try.prog 28 #[.pointer (some ⟨g, 0, none⟩), .int .u32 x] w fun e w' => e = .returned (.int .i64 (hm p x)) ∧ w' = w := by
  go_enter Try.func28, Try.ntmps28
  go_wp2_with fail
  refine (home_any g p x w hp hs).mono ?_
  rintro e w1 ⟨rfl, rfl⟩
  go_wp2
  go_ret
  exact ⟨rfl, rfl⟩

theorem newSlots_any (n : Int) (w : World) :
    Calls Try.prog 15 #[.slice none 0 0, .int .u64 0, .int .i64 n] w fun e w' => e = .returned (.pointer (some ⟨w.heap.size, 0, none⟩)) ∧ w' = w.alloc (.cells #[.slice none 0 0, .int .u64 0, .int .i64 n] 67) := by
  go_enter Try.func15, Try.ntmps15
  go_wp2
  go_ret
  exact ⟨rfl, rfl⟩
theorem slotsFields_any (s : Nat) (n : Int) (w : World) (h0 : w.cell? ⟨s, 0, none⟩ = some (.slice none 0 0)) (h1 : w.cell? ⟨s, 1, none⟩ = some (.int .u64 0)) (h2 : w.cell? ⟨s, 2, none⟩ = some (.int .i64 n)) :
    Calls Try.prog 19 #[.pointer (some ⟨s, 0, none⟩)] w fun e w' => e = .returned (.tuple #[.slice none 0 0, .int .u64 0, .int .i64 n]) ∧ ∃ q, w' = w.drewN q := by
  go_enter Try.func19, Try.ntmps19
  go_wp2
  go_quiet (fail)
  go_wp2
  go_ret3
  exact ⟨rfl, _, rfl⟩

set_option maxHeartbeats 1000000 in
theorem size_any (g n p : Nat) (dep : Int) (w : World) (hp : Pow n p) (hw : Writ w g 4) (hd : w.cell? ⟨g, 2, none⟩ = some (.int .u64 dep)) :
    Calls Try.prog 29 #[.pointer (some ⟨g, 0, none⟩), .int .i64 n] w fun e w' => e = .returned (.tuple #[]) ∧ Below g w w' ∧ w'.heap.size = w.heap.size + 1
      ∧ Seg w' g w.heap.size n 0 dep (32 - (p : Int)) ∧ Writ w' g 4 ∧ Tab w' w.heap.size n (fun _ => (0, 0)) ∧ Writ w' w.heap.size (n * 2) := by
  obtain ⟨hn, hp16⟩ := hp
  have hle : n ≤ 65536 := by rw [hn]; exact Nat.pow_le_pow_right (by omega) hp16
  have HN : Hid (n = 2 ^ p) := hn
  have hmk := mk63 n (by omega)
  obtain ⟨⟨c0, hc0⟩, hf0⟩ := hw 0 (by omega)
  obtain ⟨⟨c1, hc1⟩, hf1⟩ := hw 1 (by omega)
  obtain ⟨⟨c3, hc3⟩, hf3⟩ := hw 3 (by omega)
  have hg : g < w.heap.size := by
    rcases Nat.lt_or_ge g w.heap.size with h | h
    · exact h
    · simp [World.cell?, Array.getElem?_eq_none h] at hd
  clear hn
  have hstart : ∀ v0, Seg (((w.setCell ⟨g, 0, none⟩ (.slice (some ⟨v0, 0, none⟩) n n)).setCell ⟨g, 1, none⟩ (.int .i64 0)).setCell ⟨g, 3, none⟩ (.int .u64 32)) g v0 n 0 dep 32 := fun v0 => by
    refine ⟨?_, ?_, ?_, ?_⟩
    · rw [World.cell?_setCell_other _ _ _ _ (fun e => absurd (congrArg Addr.off e) (by simp)), World.cell?_setCell_other _ _ _ _ (fun e => absurd (congrArg Addr.off e) (by simp)), World.cell?_setCell_same _ _ _ hc0]
    · rw [World.cell?_setCell_other _ _ _ _ (fun e => absurd (congrArg Addr.off e) (by simp))]
      refine World.cell?_setCell_same _ _ _ (u := c1) ?_
      rw [World.cell?_setCell_other _ _ _ _ (fun e => absurd (congrArg Addr.off e) (by simp))]; exact hc1
    · rw [World.cell?_setCell_other _ _ _ _ (fun e => absurd (congrArg Addr.off e) (by simp)), World.cell?_setCell_other _ _ _ _ (fun e => absurd (congrArg Addr.off e) (by simp)), World.cell?_setCell_other _ _ _ _ (fun e => absurd (congrArg Addr.off e) (by simp))]; exact hd
    · refine World.cell?_setCell_same _ _ _ (u := c3) ?_
      rw [World.cell?_setCell_other _ _ _ _ (fun e => absurd (congrArg Addr.off e) (by simp)), World.cell?_setCell_other _ _ _ _ (fun e => absurd (congrArg Addr.off e) (by simp))]; exact hc3
  have HST : Hid (∀ v0, Seg (((w.setCell ⟨g, 0, none⟩ (.slice (some ⟨v0, 0, none⟩) n n)).setCell ⟨g, 1, none⟩ (.int .i64 0)).setCell ⟨g, 3, none⟩ (.int .u64 32)) g v0 n 0 dep 32) := hstart
  clear hstart
  go_enter Try.func29, Try.ntmps29
  go_wp2
  go_loopw [1] (fun t wr => ∃ (k m : Nat), k ≤ p ∧ m ≤ 65536 ∧ Hid (m = 2 ^ (p - k)) ∧ t = .int .i64 m ∧ Below g w wr ∧ wr.heap.size = w.heap.size + 1 ∧ Seg wr g w.heap.size n 0 dep (32 - (k : Int)) ∧ Writ wr g 4 ∧ Tab wr w.heap.size n (fun _ => (0, 0)) ∧ Writ wr w.heap.size (n * 2)) (fun t _ => (intOf t).toNat)
  case atStart =>
    refine ⟨0, n, Nat.zero_le _, hle, HN, rfl, ?_, by simp, ?_, ?_, ?_, ?_⟩
    · exact ((((Below.refl g w).setCell (p := ⟨g, 0, none⟩) (Nat.le_refl _) _).setCell (p := ⟨g, 1, none⟩) (Nat.le_refl _) _).setCell (p := ⟨g, 3, none⟩) (Nat.le_refl _) _).alloc (by simp; omega) _
    · exact (HST.out w.heap.size).keep (Keeps.alloc _ _ (by simpa using hg))
    · exact (((hw.set _ _).set _ _).set _ _).keep (Keeps.alloc _ _ (by simpa using hg))
    · have := Tab.zero (((w.setCell ⟨g, 0, none⟩ (.slice (some ⟨w.heap.size, 0, none⟩) n n)).setCell ⟨g, 1, none⟩ (.int .i64 0)).setCell ⟨g, 3, none⟩ (.int .u64 32)) n 62
      simpa using this
    · have := Writ.alloc2 (((w.setCell ⟨g, 0, none⟩ (.slice (some ⟨w.heap.size, 0, none⟩) n n)).setCell ⟨g, 1, none⟩ (.int .i64 0)).setCell ⟨g, 3, none⟩ (.int .u64 32)) n 62
      simpa using this
  case round =>
    obtain ⟨k, m, hk, hm, HM, rfl, hbw, hsz, hseg, hwg, htab, hwt⟩ := hrel
    have HS : Hid (wr.heap.size = w.heap.size + 1) := hsz
    clear hsz hmk hc0 hc1 hc3 hf0 hf1 hf3
    by_cases hlt : 1 < m
    · have hh := half p k (by rw [← HM.out]; exact hlt)
      have hkp := hh.1
      have H2 : Hid (m / 2 = 2 ^ (p - (k + 1))) := by rw [HM.out]; exact hh.2
      have hs3 := hseg.2.2.2
      have hf3 := (hwg 3 (by omega)).2
      clear hh
      go_wp2
      go_roundw
      case rel =>
        refine ⟨k + 1, m / 2, by omega, by omega, H2, by go_num, hbw.setCell (p := ⟨g, 3, none⟩) (Nat.le_refl _) _, by simpa using HS.out, ?_, hwg.set _ _, htab.keep (Keeps.set _ _ _ (by show g ≠ _; omega)), hwt.set _ _⟩
        have := hseg.setSh (32 - (k : Int) - 1)
        rw [show (32 : Int) - ((k + 1 : Nat) : Int) = 32 - (k : Int) - 1 by omega]
        exact this
      case measure => simp [intOf]; omega
    · have hkp : k = p := by
        rcases Nat.lt_or_ge k p with h1 | h1
        · have : 2 ^ 1 ≤ 2 ^ (p - k) := Nat.pow_le_pow_right (by omega) (by omega)
          have := HM.out
          omega
        · omega
      subst hkp
      go_wp2
      go_end0
      exact ⟨rfl, hbw, HS.out, hseg, hwg, htab, hwt⟩

theorem newSegment25_any (n p : Nat) (dep : Int) (w : World) (hp : Pow n p) :
    Calls Try.prog 25 #[.int .i64 n, .int .u64 dep] w fun e w' => e = .returned (.pointer (some ⟨w.heap.size, 0, none⟩)) ∧ Below w.heap.size w w' ∧ w'.heap.size = w.heap.size + 2
      ∧ Seg w' w.heap.size (w.heap.size + 1) n 0 dep (32 - (p : Int)) ∧ Writ w' w.heap.size 4 ∧ Tab w' (w.heap.size + 1) n (fun _ => (0, 0)) ∧ Writ w' (w.heap.size + 1) (n * 2) := by
  have c := size_any w.heap.size n p dep (w.alloc (.cells #[.slice none 0 0, .int .i64 0, .int .u64 dep, .int .u64 0] 65)) hp
    (fun j hj => ⟨by
      rw [World.cell?_alloc_new]
      match j, hj with
      | 0, _ => exact ⟨_, rfl⟩
      | 1, _ => exact ⟨_, rfl⟩
      | 2, _ => exact ⟨_, rfl⟩
      | 3, _ => exact ⟨_, rfl⟩, World.frozen?_alloc_new _ _ _ _⟩) (by rw [World.cell?_alloc_new]; rfl)
  have hsz : (w.alloc (.cells #[.slice none 0 0, .int .i64 0, .int .u64 dep, .int .u64 0] 65)).heap.size = w.heap.size + 1 := by simp
  rw [hsz] at c
  have HP : Hid (Pow n p) := hp
  clear hsz hp
  go_enter Try.func25, Try.ntmps25
  go_wp2_with fail
  refine c.mono ?_
  rintro e w1 ⟨rfl, hb, hs, hseg, hwg, htab, hwt⟩
  have HS : Hid (w1.heap.size = w.heap.size + 1 + 1) := hs
  clear hs c
  go_wp2
  go_ret
  exact ⟨rfl, ((Below.refl _ _).alloc (Nat.le_refl _) _).trans hb, HS.out, hseg, hwg, htab, hwt⟩

theorem emptySegment_any (n p : Nat) (dep : Int) (w : World) (hp : Pow n p) :
    Calls Try.prog 12 #[.int .i64 n, .int .u64 dep] w fun e w' => e = .returned (.pointer (some ⟨w.heap.size, 0, none⟩)) ∧ Below w.heap.size w w' ∧ w'.heap.size = w.heap.size + 2
      ∧ Seg w' w.heap.size (w.heap.size + 1) n 0 dep (32 - (p : Int)) ∧ Writ w' w.heap.size 4 ∧ Tab w' (w.heap.size + 1) n (fun _ => (0, 0)) ∧ Writ w' (w.heap.size + 1) (n * 2) := by
  have c := newSegment25_any n p dep w hp
  have HP : Hid (Pow n p) := hp
  clear hp
  go_enter Try.func12, Try.ntmps12
  go_wp2_with fail
  refine c.mono ?_
  rintro e w1 ⟨rfl, hb, hs, hseg, hwg, htab, hwt⟩
  have HS : Hid (w1.heap.size = w.heap.size + 2) := hs
  clear hs c
  go_wp2
  go_ret
  exact ⟨rfl, hb, HS.out, hseg, hwg, htab, hwt⟩
end Go.Proofs.Qxb6604790a
