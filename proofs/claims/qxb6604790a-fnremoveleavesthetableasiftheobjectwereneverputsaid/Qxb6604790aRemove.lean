/-
  (slots).remove, ZZRemove.
-/
import Derived.Test.Qxb6604790aHome
import Derived.Test.Qxb6604790aPlain
import Derived.Deep.RegionHeld3
import Derived.Deep.LoopGhost
namespace Go.Proofs.Qxb6604790a
open Go.RowKit

theorem pos_step (n e o : Nat) : (((pos n e o : Nat) : Int) + 1) % (n : Int) = ((pos n e (o + 1) : Nat) : Int) := by
  rw [← pos_succ, Int.natCast_emod]; rfl

/-- remove's test: does the slot at c move into the hole a, its home being x? -/
def Moves (a c x : Nat) : Prop := (a < c ∧ (x ≤ a ∨ c < x)) ∨ (c < a ∧ x ≤ a ∧ c < x)

theorem moves_cases {a c x : Nat} (h : Moves a c x) : (a < c ∧ x ≤ a) ∨ (a < c ∧ ¬ x ≤ a ∧ c < x) ∨ (¬ a < c ∧ c < a ∧ x ≤ a ∧ c < x) := by
  unfold Moves at h; omega
theorem stays_cases {a c x : Nat} (h : ¬ Moves a c x) : (a < c ∧ ¬ x ≤ a ∧ ¬ c < x) ∨ (¬ a < c ∧ ¬ c < a) ∨ (¬ a < c ∧ c < a ∧ ¬ x ≤ a) ∨ (¬ a < c ∧ c < a ∧ x ≤ a ∧ ¬ c < x) := by
  unfold Moves at h; omega

section
variable {n e oa p o a c : Nat} {T G : Nat → Int × Int}
theorem rm_zero (he : e < n) (hoa : oa < n) (hT0 : (T (pos n e 0)).1 = 0) (hTa : (T (pos n e oa)).1 ≠ 0) (ho1 : o ≤ n) (hc : c = pos n e o) (hG : G = (st n e oa T (hm p) o).2) (hz : ¬ (o < n ∧ (T (pos n e o)).1 ≠ 0)) : (G c).1 = 0 ∧ (o = n ∨ (o < n ∧ (T (pos n e o)).1 = 0)) := by
  subst hc hG
  by_cases h1 : o < n
  · have h2 : (T (pos n e o)).1 = 0 := Decidable.byContradiction fun h => hz ⟨h1, h⟩
    refine ⟨?_, .inr ⟨h1, h2⟩⟩
    rw [st_same n e oa T (hm p) o he hoa hTa ho1 o h1 (.inr h2)]
    exact h2
  · obtain rfl : o = n := by omega
    refine ⟨?_, .inl rfl⟩
    rw [show pos o e o = pos o e 0 from (pos_full o e he).trans (pos_zero o e he).symm, st_same o e oa T (hm p) o he hoa hTa ho1 0 (by omega) (.inr hT0)]
    exact hT0
theorem rm_here (he : e < n) (hoa : oa < n) (hTa : (T (pos n e oa)).1 ≠ 0) (ho1 : o < n) (hc : c = pos n e o) (hG : G = (st n e oa T (hm p) o).2) : G c = T (pos n e o) := by
  subst hc hG
  exact st_same n e oa T (hm p) o he hoa hTa (by omega) o ho1 (.inl (Nat.le_refl _))
theorem rm_step (he : e < n) (hoa : oa < n) (hTa : (T (pos n e oa)).1 ≠ 0) (hv : Valid n e T (hm p)) (hhl : ∀ x, hm p x < n) (hoo : oa < o) (ho1 : o < n) (hT : (T (pos n e o)).1 ≠ 0) (ha : a = pos n e (st n e oa T (hm p) o).1) (hc : c = pos n e o) (hG : G = (st n e oa T (hm p) o).2) :
    (Moves a c (hm p (G c).2) → pos n e (st n e oa T (hm p) (o + 1)).1 = c ∧ (st n e oa T (hm p) (o + 1)).2 = upd G a (G c)) ∧ (¬ Moves a c (hm p (G c).2) → st n e oa T (hm p) (o + 1) = st n e oa T (hm p) o) := by
  have hGc := rm_here he hoa hTa ho1 hc hG
  obtain ⟨_, j2, _⟩ := st_hole n e oa T (hm p) o hoo hTa
  have hx : hm p (G c).2 = pos n e (ho n e T (hm p) o) := by rw [hGc]; exact (pos_off n e _ he (hhl _)).symm
  have hci := cond_iff n e o (st n e oa T (hm p) o).1 (ho n e T (hm p) o) he j2 ho1 (hv o (by omega) ho1 hT).1
  rw [hx]
  unfold Moves
  rw [ha, hc, hci]
  refine ⟨fun hm1 => ?_, fun hm1 => ?_⟩
  · rw [st, if_neg (by omega), if_pos ⟨hT, j2, hm1⟩]
    refine ⟨rfl, ?_⟩
    rw [← hc, hGc, hG, ← ha, hc]
  · rw [st, if_neg (by omega), if_neg (fun q => hm1 q.2.2)]
end

set_option maxRecDepth 100000 in
set_option maxHeartbeats 2000000 in
theorem remove_any (s g b n p e oa : Nat) (T : Nat → Int × Int) (obj dep cnt : Int) (w : World) (hp : Pow n p) (he : e < n) (hoa : oa < n) (hoa1 : 1 ≤ oa) (hT0 : (T (pos n e 0)).1 = 0) (hTa : (T (pos n e oa)).1 ≠ 0) (hv : Valid n e T (hm p))
    (hseg : Seg w g b n obj dep (32 - (p : Int))) (hwg : Writ w g 4) (htab : Tab w b n T) (hwt : Writ w b (n * 2)) (hs2 : w.cell? ⟨s, 2, none⟩ = some (.int .i64 cnt)) (hfs : w.frozen? ⟨s, 2, none⟩ = false) (hgb : g ≠ b) (hsg : s ≠ g) (hsb : s ≠ b) :
    Calls Try.prog 27 #[.pointer (some ⟨s, 0, none⟩), .agg #[.pointer (some ⟨g, 0, none⟩), .int .i64 (pos n e oa : Nat)]] w fun ev w' => ev = .returned (.tuple #[]) ∧ (∀ B, B ≤ g → B ≤ b → B ≤ s → Below B w w') ∧ w'.heap.size = w.heap.size + 1
      ∧ Seg w' g b n (wrap64 (obj - 1)) dep (32 - (p : Int)) ∧ (∃ o, oa < o ∧ (o = n ∨ (o < n ∧ (T (pos n e o)).1 = 0)) ∧ Tab w' b n (upd (st n e oa T (hm p) o).2 (pos n e (st n e oa T (hm p) o).1) (0, 0)))
      ∧ w'.cell? ⟨s, 2, none⟩ = some (.int .i64 (wrap64 (cnt - 1))) ∧ (∀ o, o ≠ 2 → w'.cell? ⟨s, o, none⟩ = w.cell? ⟨s, o, none⟩) ∧ ∀ b', b' < w.heap.size → b' ≠ g → b' ≠ b → b' ≠ s → Keeps w w' b' := by
  have hmask := fun z => i64_mask z n p hp.1 hp.2
  have hle : n ≤ 65536 := by rw [hp.1]; exact Nat.pow_le_pow_right (by omega) hp.2
  have hp16 := hp.2
  have hhl : ∀ x, hm p x < n := fun x => by rw [hp.1]; exact hm_lt p x hp.2
  clear hp
  have hg : g < w.heap.size := by
    rcases Nat.lt_or_ge g w.heap.size with h | h
    · exact h
    · have := hseg.1
      simp [World.cell?, Array.getElem?_eq_none h] at this
  have hb : b < w.heap.size := by
    rcases Nat.lt_or_ge b w.heap.size with h | h
    · exact h
    · have := (htab 0 (by omega)).1
      simp [World.cell?, Array.getElem?_eq_none h] at this
  have hs : s < w.heap.size := by
    rcases Nat.lt_or_ge s w.heap.size with h | h
    · exact h
    · simp [World.cell?, Array.getElem?_eq_none h] at hs2
  obtain ⟨at0, HAT⟩ : ∃ a0, Hid (a0 = pos n e oa) := ⟨_, rfl⟩
  rw [← HAT.out]
  have hbl : ∀ c, c < w.heap.size → Keeps w (w.alloc (.cells #[.pointer (some ⟨g, 0, none⟩), .int .i64 (at0 : Nat)] 70)) c := fun c hc => Keeps.alloc _ _ hc
  have hseg1 := hseg.keep (hbl g hg)
  have htab1 := htab.keep (hbl b hb)
  have hwg1 := hwg.keep (hbl g hg)
  have hwt1 := hwt.keep (hbl b hb)
  have hs0 := hseg1.1
  have hat0 : at0 < n := by rw [HAT.out]; exact pos_lt n e oa he
  have HV : Hid (Valid n e T (hm p)) := hv
  have HT0 : Hid ((T (pos n e 0)).1 = 0) := hT0
  have HTA : Hid ((T (pos n e oa)).1 ≠ 0) := hTa
  clear hv hT0 hTa
  go_enter Try.func27, Try.ntmps27
  go_wp2
  go_loopg [6, 7] (n - (oa + 1)) (fun r tH tJ wr => ∃ (o a c : Nat) (G : Nat → Int × Int), Hid (oa < o ∧ o + r = n ∧ a = pos n e (st n e oa T (hm p) o).1 ∧ c = pos n e o ∧ G = (st n e oa T (hm p) o).2) ∧ a < n ∧ c < n ∧ tH = .int .i64 a ∧ tJ = .int .i64 c
      ∧ Hid ((∀ B, B ≤ g → B ≤ b → Below B w wr) ∧ wr.heap.size = w.heap.size + 1 ∧ ∀ b', b' < w.heap.size → b' ≠ b → Keeps w wr b') ∧ Seg wr g b n obj dep (32 - (p : Int)) ∧ Writ wr g 4 ∧ Tab wr b n G ∧ Writ wr b (n * 2))
  case atStart =>
    refine ⟨oa + 1, at0, (at0 + 1) % n, T, ⟨by omega, by omega, ?_, ?_, ?_⟩, ?_, Nat.mod_lt _ (by omega), rfl, ?_, ⟨?_, by simp, fun b' h1 _ => hbl b' h1⟩, hseg1, hwg1, htab1, hwt1⟩
    · rw [st_at]; exact HAT.out
    · rw [HAT.out]; exact pos_succ n e oa
    · rw [st_at]
    · rw [HAT.out]; exact pos_lt n e oa he
    · rw [Int.natCast_emod]; rfl
    · exact fun B h1 _ => (Below.refl B w).alloc (by omega) _
  case round =>
    obtain ⟨o, a, c, G, HO, ha, hc, rfl, rfl, HW, hsg1, hwgr, htr, hwtr⟩ := hrel
    clear hseg1 hwg1 htab1 hwt1 hs0 hbl
    have hs0r := hsg1.1
    have h0c : (0 : Int) ≤ (c : Int) := by omega
    have h1c : (c : Int) < (n : Int) := by omega
    have h0a : (0 : Int) ≤ (a : Int) := by omega
    have h1a : (a : Int) < (n : Int) := by omega
    have htc0 := (htr c hc).1
    have htc1 := (htr c hc).2
    have hs3 := hsg1.2.2.2
    by_cases hgo : o < n ∧ (T (pos n e o)).1 ≠ 0
    · have hst : Hid ((Moves a c (hm p (G c).2) → pos n e (st n e oa T (hm p) (o + 1)).1 = c ∧ (st n e oa T (hm p) (o + 1)).2 = upd G a (G c)) ∧ (¬ Moves a c (hm p (G c).2) → st n e oa T (hm p) (o + 1) = st n e oa T (hm p) o)) :=
        rm_step he hoa HTA.out HV.out hhl HO.out.1 hgo.1 hgo.2 HO.out.2.2.1 HO.out.2.2.2.1 HO.out.2.2.2.2
      have hnz : ((G c).1 == 0) = false := by rw [rm_here he hoa HTA.out hgo.1 HO.out.2.2.2.1 HO.out.2.2.2.2]; simpa using hgo.2
      have HGO : Hid (o < n ∧ (T (pos n e o)).1 ≠ 0) := hgo
      clear hgo
      have cH := home_any g p (G c).2 wr hp16 hs3
      have hxl := hhl (G c).2
      generalize hm p (G c).2 = x at *
      clear hhl hseg htab hwt hwg
      go_wp2_with fail
      refine cH.mono ?_
      rintro ev w1 ⟨rfl, rfl⟩
      clear cH
      by_cases hmv : Moves a c x
      · have HN : Hid (pos n e (st n e oa T (hm p) (o + 1)).1 = c ∧ (st n e oa T (hm p) (o + 1)).2 = upd G a (G c)) := hst.out.1 hmv
        have hac : a ≠ c := by unfold Moves at hmv; omega
        have hd1 : a * 2 ≠ c * 2 := by omega
        have hd2 : a * 2 ≠ c * 2 + 1 := by omega
        have hd3 : a * 2 + 1 ≠ c * 2 := by omega
        have hd4 : a * 2 + 1 ≠ c * 2 + 1 := by omega
        have hoth0 : ∀ (W : World) (v v' : Value), ((W.setCell ⟨b, a * 2, none⟩ v).setCell ⟨b, a * 2 + 1, none⟩ v').cell? ⟨b, c * 2, none⟩ = W.cell? ⟨b, c * 2, none⟩ := fun W v v' => by
          rw [World.cell?_setCell_other _ _ _ _ (fun q => hd3 (congrArg Addr.off q)), World.cell?_setCell_other _ _ _ _ (fun q => hd1 (congrArg Addr.off q))]
        have hoth1 : ∀ (W : World) (v v' : Value), ((W.setCell ⟨b, a * 2, none⟩ v).setCell ⟨b, a * 2 + 1, none⟩ v').cell? ⟨b, c * 2 + 1, none⟩ = W.cell? ⟨b, c * 2 + 1, none⟩ := fun W v v' => by
          rw [World.cell?_setCell_other _ _ _ _ (fun q => hd4 (congrArg Addr.off q)), World.cell?_setCell_other _ _ _ _ (fun q => hd2 (congrArg Addr.off q))]
        have hbg : b ≠ g := fun q => hgb q.symm
        clear hd1 hd2 hd3 hd4 hac
        obtain ⟨⟨u, hu⟩, hf⟩ := hwtr (a * 2) (by omega)
        obtain ⟨⟨u', hu'⟩, hf'⟩ := hwtr (a * 2 + 1) (by omega)
        rcases moves_cases hmv with ⟨q1, q2⟩ | ⟨q1, q2, q3⟩ | ⟨q1, q2, q3, q4⟩
        all_goals
          clear hmv
          go_wp2
          go_region_held3 (fun w' => w'.cell? ⟨g, 0, none⟩ = some (.slice (some ⟨b, 0, none⟩) n n) ∧ w'.cell? ⟨b, c * 2, none⟩ = some (.int .u32 (G c).1) ∧ w'.cell? ⟨b, c * 2 + 1, none⟩ = some (.int .u32 (G c).2)) (go_keep) (fail)
          go_wp2
          go_roundg (gk - 1)
          case measure => have q5 := HO.out.2.1; have q6 := HGO.out.1; omega
          case rel =>
            refine ⟨o + 1, c, (c + 1) % n, upd G a (G c), ⟨by have := HO.out.1; omega, by have q5 := HO.out.2.1; have q6 := HGO.out.1; omega, HN.out.1.symm, by rw [HO.out.2.2.2.1]; exact pos_succ n e o, HN.out.2.symm⟩, hc, Nat.mod_lt _ (by omega), rfl, by rw [Int.natCast_emod]; rfl, ⟨fun B p1 p2 => (put2_below (HW.out.1 B p1 p2) p2 a (G c)).drew, (put2_size _ b a (G c)).trans HW.out.2.1, fun b' p1 p2 => ((HW.out.2.2 b' p1 p2).trans (put2_keeps _ b a (G c) (Ne.symm p2))).trans (Keeps.drew _ _)⟩, hsg1.keep ((put2_keeps _ b a (G c) hbg).trans (Keeps.drew _ _)), put2_writ hwgr b a (G c), htr.put hwtr ha (G c), put2_writ hwtr b a (G c)⟩
      · have HN : Hid (st n e oa T (hm p) (o + 1) = st n e oa T (hm p) o) := hst.out.2 hmv
        rcases stays_cases hmv with ⟨q1, q2, q3⟩ | ⟨q1, q2⟩ | ⟨q1, q2, q3⟩ | ⟨q1, q2, q3, q4⟩
        all_goals
          clear hmv
          go_wp2
          go_roundg (gk - 1)
          case measure => have q5 := HO.out.2.1; have q6 := HGO.out.1; omega
          case rel =>
            refine ⟨o + 1, a, (c + 1) % n, G, ⟨by have := HO.out.1; omega, by have q5 := HO.out.2.1; have q6 := HGO.out.1; omega, by rw [HN.out]; exact HO.out.2.2.1, by rw [HO.out.2.2.2.1]; exact pos_succ n e o, by rw [HN.out]; exact HO.out.2.2.2.2⟩, ha, Nat.mod_lt _ (by omega), rfl, by rw [Int.natCast_emod]; rfl, HW, hsg1, hwgr, htr, hwtr⟩
    · have hz := rm_zero he hoa HT0.out HTA.out (by have := HO.out.2.1; omega) HO.out.2.2.2.1 HO.out.2.2.2.2 hgo
      have HZ : Hid (o = n ∨ (o < n ∧ (T (pos n e o)).1 = 0)) := hz.2
      rw [hz.1] at htc0
      have hks := HW.out.2.2 s hs hsb
      have hs2r : wr.cell? ⟨s, 2, none⟩ = some (.int .i64 cnt) := (hks 2).1.trans hs2
      have hfsr : wr.frozen? ⟨s, 2, none⟩ = false := (hks 2).2.trans hfs
      have hs1r := hsg1.2.1
      have hfg := (hwgr 1 (by omega)).2
      obtain ⟨⟨u, hu⟩, hf⟩ := hwtr (a * 2) (by omega)
      obtain ⟨⟨u', hu'⟩, hf'⟩ := hwtr (a * 2 + 1) (by omega)
      have hbg : b ≠ g := fun q => hgb q.symm
      have hgs : g ≠ s := fun q => hsg q.symm
      have hbs : b ≠ s := fun q => hsb q.symm
      clear hz hgo hks hmask hhl hseg htab hwt hwg
      go_wp2
      go_end0
      have hks := HW.out.2.2 s hs hsb
      have hk3 : Keeps wr ((put2 wr b a (0, 0)).setCell ⟨g, 1, none⟩ (.int .i64 (wrap64 (obj - 1)))) s := (put2_keeps wr b a (0, 0) hbs).trans (Keeps.set _ ⟨g, 1, none⟩ _ hgs)
      refine ⟨rfl, fun B p1 p2 p3 => ((put2_below (HW.out.1 B p1 p2) p2 a (0, 0)).setCell (p := ⟨g, 1, none⟩) p1 _).setCell (p := ⟨s, 2, none⟩) p3 _, ?_, ?_, ⟨o, HO.out.1, HZ.out, ?_⟩, ?_, ?_, ?_⟩
      · have := HW.out.2.1
        simpa using this
      · exact ((hsg1.keep (put2_keeps wr b a (0, 0) hbg)).setObj _).keep (Keeps.set _ ⟨s, 2, none⟩ _ hsg)
      · rw [← HO.out.2.2.1, ← HO.out.2.2.2.2]
        exact (htr.put hwtr ha (0, 0)).keep ((Keeps.set _ ⟨g, 1, none⟩ _ hgb).trans (Keeps.set _ ⟨s, 2, none⟩ _ hsb))
      · exact World.cell?_setCell_same _ _ _ (u := .int .i64 cnt) ((hk3 2).1.trans hs2r)
      · exact fun o' ho' => ((World.cell?_setCell_other _ _ _ _ (fun q => ho' (congrArg Addr.off q).symm)).trans (hk3 o').1).trans (hks o').1
      · exact fun b' p1 p2 p3 p4 => (((HW.out.2.2 b' p1 p3).trans (put2_keeps _ b a (0, 0) (Ne.symm p3))).trans (Keeps.set _ ⟨g, 1, none⟩ _ (Ne.symm p2))).trans (Keeps.set _ ⟨s, 2, none⟩ _ (Ne.symm p4))

/-- What remove leaves behind it. -/
def Removed (s g b n p e oa : Nat) (T : Nat → Int × Int) (obj dep cnt : Int) (w w' : World) : Prop := (∀ B, B ≤ g → B ≤ b → B ≤ s → Below B w w') ∧ w'.heap.size = w.heap.size + 1
      ∧ Seg w' g b n (wrap64 (obj - 1)) dep (32 - (p : Int)) ∧ (∃ o, oa < o ∧ (o = n ∨ (o < n ∧ (T (pos n e o)).1 = 0)) ∧ Tab w' b n (upd (st n e oa T (hm p) o).2 (pos n e (st n e oa T (hm p) o).1) (0, 0)))
      ∧ w'.cell? ⟨s, 2, none⟩ = some (.int .i64 (wrap64 (cnt - 1))) ∧ (∀ o, o ≠ 2 → w'.cell? ⟨s, o, none⟩ = w.cell? ⟨s, o, none⟩) ∧ ∀ b', b' < w.heap.size → b' ≠ g → b' ≠ b → b' ≠ s → Keeps w w' b'

theorem zzRemove_any (s g b n p e oa : Nat) (T : Nat → Int × Int) (obj dep cnt : Int) (w : World) (hp : Pow n p) (he : e < n) (hoa : oa < n) (hoa1 : 1 ≤ oa) (hT0 : (T (pos n e 0)).1 = 0) (hTa : (T (pos n e oa)).1 ≠ 0) (hv : Valid n e T (hm p))
    (hseg : Seg w g b n obj dep (32 - (p : Int))) (hwg : Writ w g 4) (htab : Tab w b n T) (hwt : Writ w b (n * 2)) (hs2 : w.cell? ⟨s, 2, none⟩ = some (.int .i64 cnt)) (hfs : w.frozen? ⟨s, 2, none⟩ = false) (hgb : g ≠ b) (hsg : s ≠ g) (hsb : s ≠ b) (at0 : Nat) (hat : at0 = pos n e oa) :
    Calls Try.prog 16 #[.pointer (some ⟨s, 0, none⟩), .pointer (some ⟨g, 0, none⟩), .int .i64 at0] w fun ev w' => ev = .returned (.tuple #[]) ∧ Removed s g b n p e oa T obj dep cnt w w' := by
  have c := remove_any s g b n p e oa T obj dep cnt w hp he hoa hoa1 hT0 hTa hv hseg hwg htab hwt hs2 hfs hgb hsg hsb
  rw [← hat] at c
  clear hp he hoa hoa1 hT0 hTa hv hseg hwg htab hwt hs2 hfs hgb hsg hsb hat
  go_enter Try.func16, Try.ntmps16
  go_wp2_with fail
  refine c.mono ?_
  rintro ev w1 ⟨rfl, h⟩
  have H : Removed s g b n p e oa T obj dep cnt w w1 := h
  clear h c
  go_wp2
  go_end0
  exact ⟨rfl, H⟩
end Go.Proofs.Qxb6604790a
