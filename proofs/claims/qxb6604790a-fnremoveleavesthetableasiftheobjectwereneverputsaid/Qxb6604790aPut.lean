/-
  (segment).put, ZZPut.
-/
import Derived.Test.Qxb6604790aHome
import Derived.Deep.RegionHeld3
import Derived.Deep.LoopGhost
namespace Go.Proofs.Qxb6604790a
open Go.RowKit

theorem step_mod (i n : Nat) : ((i : Int) + 1) % (n : Int) = (((i + 1) % n : Nat) : Int) := by
  rw [Int.natCast_emod]; rfl
theorem mod_step (s j n : Nat) : ((s + j) % n + 1) % n = (s + (j + 1)) % n := by
  rw [Nat.mod_add_mod]; rfl

set_option maxHeartbeats 1000000 in
theorem put_any (g b n p k : Nat) (T : Nat → Int × Int) (obj dep : Int) (v : Int × Int) (w : World) (hp : Pow n p) (hseg : Seg w g b n obj dep (32 - (p : Int))) (hwg : Writ w g 4) (htab : Tab w b n T) (hwt : Writ w b (n * 2)) (hgb : g ≠ b)
    (hfull : ∀ j, j < k → (T ((hm p v.2 + j) % n)).1 ≠ 0) (hfree : (T ((hm p v.2 + k) % n)).1 = 0) :
    Calls Try.prog 26 #[.pointer (some ⟨g, 0, none⟩), .agg #[.int .u32 v.1, .int .u32 v.2]] w fun e w' => e = .returned (.tuple #[]) ∧ (∀ B, B ≤ g → B ≤ b → Below B w w') ∧ w'.heap.size = w.heap.size + 1
      ∧ (∃ obj', Seg w' g b n obj' dep (32 - (p : Int))) ∧ Writ w' g 4 ∧ Tab w' b n (upd T ((hm p v.2 + k) % n) v) ∧ Writ w' b (n * 2) ∧ ∀ b', b' < w.heap.size → b' ≠ g → b' ≠ b → Keeps w w' b' := by
  obtain ⟨x, y⟩ := v
  simp only at hfull hfree ⊢
  have hmask := fun z => i64_mask z n p hp.1 hp.2
  have hle : n ≤ 65536 := by rw [hp.1]; exact Nat.pow_le_pow_right (by omega) hp.2
  have hp16 := hp.2
  have hlt := hm_lt p y hp.2
  rw [← hp.1] at hlt
  clear hp
  have hbl : ∀ c, c < w.heap.size → Keeps w (w.alloc (.cells #[.int .u32 x, .int .u32 y] 62)) c := fun c hc => Keeps.alloc _ _ hc
  have hg : g < w.heap.size := by
    rcases Nat.lt_or_ge g w.heap.size with h | h
    · exact h
    · have := hseg.1
      simp [World.cell?, Array.getElem?_eq_none h] at this
  have hb : b < w.heap.size := by
    rcases Nat.lt_or_ge b w.heap.size with h | h
    · exact h
    · have := (htab 0 (by omega)).1
      simp [World.cell?, Array.getElem?_eq_none h] at this
  have hseg1 := hseg.keep (hbl g hg)
  have htab1 := htab.keep (hbl b hb)
  have hwg1 := hwg.keep (hbl g hg)
  have hwt1 := hwt.keep (hbl b hb)
  have hv0 : (w.alloc (.cells #[.int .u32 x, .int .u32 y] 62)).cell? ⟨w.heap.size, 0, none⟩ = some (.int .u32 x) := by rw [World.cell?_alloc_new]; rfl
  have hv1 : (w.alloc (.cells #[.int .u32 x, .int .u32 y] 62)).cell? ⟨w.heap.size, 1, none⟩ = some (.int .u32 y) := by rw [World.cell?_alloc_new]; rfl
  have hs0 := hseg1.1
  have hs1 := hseg1.2.1
  have hs3 := hseg1.2.2.2
  have c := home_any g p y (w.alloc (.cells #[.int .u32 x, .int .u32 y] 62)) hp16 hs3
  generalize hs : hm p y = s at *
  have HM : Hid (hm p y = s) := hs
  clear hs
  have HF : Hid (∀ j, j < k → (T ((s + j) % n)).1 ≠ 0) := hfull
  have HE : Hid ((T ((s + k) % n)).1 = 0) := hfree
  clear hfull hfree
  go_enter Try.func26, Try.ntmps26
  go_wp2_with fail
  refine c.mono ?_
  rintro e w1 ⟨rfl, rfl⟩
  go_wp2
  go_loopg [5] k (fun r t wr => ∃ j i : Nat, j + r = k ∧ i < n ∧ Hid (i = (s + j) % n) ∧ t = .int .i64 i ∧ Hid (wr = w.alloc (.cells #[.int .u32 x, .int .u32 y] 62)))
  case atStart => exact ⟨0, s, Nat.zero_add _, hlt, (Nat.mod_eq_of_lt hlt).symm, rfl, rfl⟩
  case round =>
    obtain ⟨j, i, hj, hi, HI, rfl, HW⟩ := hrel
    have hW := HW.out
    rw [← hW] at hseg1 htab1 hwg1 hwt1 hv0 hv1 hs0 hs1 hs3
    clear hW
    have HJ : Hid (j + gk = k) := hj
    clear hj
    have hti := (htab1 i hi).1
    have h0 : (0 : Int) ≤ (i : Int) := by omega
    have h1 : (i : Int) < (n : Int) := by omega
    by_cases hjk : j < k
    · have hne : ((T i).1 == 0) = false := by rw [HI.out]; simpa using HF.out j hjk
      go_wp2
      go_roundg (gk - 1)
      case measure => have := HJ.out; omega
      case rel => exact ⟨j + 1, (i + 1) % n, by have := HJ.out; omega, Nat.mod_lt _ (by omega), by rw [HI.out]; exact mod_step s j n, by rw [step_mod], HW⟩
    · have hjk' : j = k := by have := HJ.out; omega
      have hz : (T i).1 = 0 := by rw [HI.out, hjk']; exact HE.out
      rw [hz] at hti
      have HZ : Hid ((T i).1 = 0) := hz
      have HIK : Hid (i = (s + k) % n) := by rw [← hjk']; exact HI.out
      obtain ⟨⟨u, hu⟩, hf⟩ := hwt1 (i * 2) (by omega)
      obtain ⟨⟨u', hu'⟩, hf'⟩ := hwt1 (i * 2 + 1) (by omega)
      have hfg := (hwg1 1 (by omega)).2
      have hn1 : w.heap.size ≠ b := by omega
      have hn2 : w.heap.size ≠ g := by omega
      have hn3 : b ≠ g := fun e => hgb e.symm
      have hn4 : b ≠ w.heap.size := by omega
      clear hz hjk' hjk
      go_wp2
      go_region_held3 (fun w' => w'.cell? ⟨g, 0, none⟩ = some (.slice (some ⟨b, 0, none⟩) n n) ∧ w'.cell? ⟨w.heap.size, 0, none⟩ = some (.int .u32 x) ∧ w'.cell? ⟨w.heap.size, 1, none⟩ = some (.int .u32 y)) (go_keep) (fail)
      all_goals go_wp2
      go_end0
      have hwe := HW.out
      have hk1 : ∀ b', b' < w.heap.size → Keeps w wr b' := fun b' hb' => by rw [hwe]; exact hbl b' hb'
      have hk2 : ∀ b', b' ≠ g → b' ≠ b → Keeps wr ((put2 wr b i (x, y)).setCell ⟨g, 1, none⟩ (.int .i64 (wrap64 (obj + 1)))).drew b' := fun b' h1 h2 => ((put2_keeps wr b i (x, y) (Ne.symm h2)).trans (Keeps.set _ ⟨g, 1, none⟩ _ (Ne.symm h1))).trans (Keeps.drew _ _)
      refine ⟨rfl, ?_, ?_, ⟨wrap64 (obj + 1), ?_⟩, ?_, ?_, ?_, ?_⟩
      · intro B h1 h2
        have hB : Below B w wr := by rw [hwe]; exact (Below.refl B w).alloc (by omega) _
        exact ((put2_below hB h2 i (x, y)).setCell (p := ⟨g, 1, none⟩) h1 _).drew
      · have : wr.heap.size = w.heap.size + 1 := by rw [hwe]; simp
        simpa using this
      · exact ((hseg1.keep (put2_keeps wr b i (x, y) hn3)).setObj _)
      · exact (put2_writ hwg1 b i (x, y)).set _ _
      · rw [← HIK.out]
        exact (htab1.put hwt1 hi (x, y)).keep ((Keeps.set _ ⟨g, 1, none⟩ (.int .i64 (wrap64 (obj + 1))) hgb).trans (Keeps.drew _ _))
      · exact (put2_writ hwt1 b i (x, y)).set _ _
      · exact fun b' h1 h2 h3 => (hk1 b' h1).trans (hk2 b' h2 h3)

theorem zzPut_any (g b n p k : Nat) (T : Nat → Int × Int) (obj dep x y : Int) (w : World) (hp : Pow n p) (hseg : Seg w g b n obj dep (32 - (p : Int))) (hwg : Writ w g 4) (htab : Tab w b n T) (hwt : Writ w b (n * 2)) (hgb : g ≠ b)
    (hfull : ∀ j, j < k → (T ((hm p y + j) % n)).1 ≠ 0) (hfree : (T ((hm p y + k) % n)).1 = 0) :
    Calls Try.prog 13 #[.pointer (some ⟨g, 0, none⟩), .int .u32 x, .int .u32 y] w fun e w' => e = .returned (.tuple #[]) ∧ (∀ B, B ≤ g → B ≤ b → Below B w w') ∧ w'.heap.size = w.heap.size + 1
      ∧ (∃ obj', Seg w' g b n obj' dep (32 - (p : Int))) ∧ Writ w' g 4 ∧ Tab w' b n (upd T ((hm p y + k) % n) (x, y)) ∧ Writ w' b (n * 2) ∧ ∀ b', b' < w.heap.size → b' ≠ g → b' ≠ b → Keeps w w' b' := by
  have c := put_any g b n p k T obj dep (x, y) w hp hseg hwg htab hwt hgb hfull hfree
  clear hp hseg hwg htab hwt hgb hfull hfree
  go_enter Try.func13, Try.ntmps13
  go_wp2_with fail
  refine c.mono ?_
  rintro e w1 ⟨rfl, h⟩
  have H : Hid ((∀ B, B ≤ g → B ≤ b → Below B w w1) ∧ w1.heap.size = w.heap.size + 1
      ∧ (∃ obj', Seg w1 g b n obj' dep (32 - (p : Int))) ∧ Writ w1 g 4 ∧ Tab w1 b n (upd T ((hm p y + k) % n) (x, y)) ∧ Writ w1 b (n * 2) ∧ ∀ b', b' < w.heap.size → b' ≠ g → b' ≠ b → Keeps w w1 b') := h
  clear h c
  go_wp2
  go_end0
  exact ⟨rfl, H.out⟩
end Go.Proofs.Qxb6604790a
