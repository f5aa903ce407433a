/-
  The law where the table is one: two rows of one length.
-/
import Derived.Test.Qxb6604790aFront
import Derived.Test.Qxb6604790aPut
import Derived.Test.Qxb6604790aRemove
import Derived.Test.Qxb6604790aFields
namespace Go.Proofs.Qxb6604790a
open Go.RowKit
set_option maxRecDepth 100000

set_option maxHeartbeats 4000000 in
theorem law_main (a0 a1 : Option Addr) (n c0 c1 : Nat) (a2 a3 a4 a5 a6 : Int) (H X : Nat → Int) (w : World) (hn : n ≤ 65536) (hn0 : 0 < n) (r0 : Came w a0 n c0 H) (r1 : Came w a1 n c1 X) :
    Calls Try.prog 5 #[.slice a0 n c0, .slice a1 n c1, .int .i64 a2, .int .u64 a3, .int .u64 a4, .int .i64 a5, .int .i64 a6] w fun e w' => e = .returned (.bool true) ∧ Below w.heap.size w w' := by
  have c := bytes_ok a0 a1 n c0 n c1 a2 a3 a4 a5 a6 w (by omega)
  go_enter Try.func5, Try.ntmps5
  go_wp2_with fail
  refine c.mono ?_
  rintro ev w1 ⟨rfl, hw1⟩
  obtain rfl : w1 = w := hw1
  clear c
  go_wp2_with fail
  refine (clone_gen a0 n c0 H w1 hn r0).mono ?_
  rintro ev w2 ⟨b0, rfl, hb2, hcl⟩
  obtain ⟨rfl, hz2, hrow0⟩ := hcl hn0
  have HB2 : Hid (Below w1.heap.size w1 w2) := hb2
  have HZ2 : Hid (w2.heap.size = w1.heap.size + 1) := hz2
  clear hb2 hz2 hcl
  go_wp2_with fail
  refine (clone_gen a1 n c1 X w2 hn (r1.below HB2.out)).mono ?_
  rintro ev w3 ⟨b1, rfl, hb3, hcl⟩
  obtain ⟨rfl, hz3, hrowX⟩ := hcl hn0
  rw [HZ2.out] at hrowX ⊢
  have hrowH : Row w3 w1.heap.size n H := hrow0.keep (Keeps.of_below hb3 (by rw [HZ2.out]; omega))
  have HB3 : Hid (Below w1.heap.size w1 w3) := HB2.out.trans (hb3.mono HB2.out.size)
  have HZ3 : Hid (w3.heap.size = w1.heap.size + 2) := by rw [HZ2.out] at hz3; exact hz3
  clear hb3 hz3 hcl hrow0 r0 r1
  go_wp2_with fail
  refine (domain_any w1.heap.size (w1.heap.size + 1) n n n H X a4 w3 hn hn0 hrowH hrowX).mono ?_
  rintro ev w4 ⟨hb4, β, rfl, hβ⟩
  have HB4 : Hid (Below w3.heap.size w3 w4) := hb4
  have hrowH4 : Row w4 w1.heap.size n H := hrowH.keep (Keeps.of_below hb4 (by rw [HZ3.out]; omega))
  have hrowX4 : Row w4 (w1.heap.size + 1) n X := hrowX.keep (Keeps.of_below hb4 (by rw [HZ3.out]; omega))
  have HBW : Hid (Below w1.heap.size w1 w4) := HB3.out.trans (hb4.mono HB3.out.size)
  have HSZ : Hid (w1.heap.size + 2 ≤ w4.heap.size) := by rw [← HZ3.out]; exact hb4.size
  clear hb4 hrowH hrowX
  cases β with
  | false =>
    clear hβ
    go_wp2
    go_ret
    exact ⟨rfl, HBW.out⟩
  | true =>
    obtain ⟨p, hpow, hsh, e, hfe, hval⟩ := hβ rfl
    have HP : Hid (Pow n p) := hpow
    have HF : Hid (First H n e) := hfe
    have HV : Hid (Valid n e (fun i => (H i, X i)) (hm p)) := hval
    have hp16 := hpow.2
    have hen := hfe.1
    subst hsh
    clear hβ hpow hfe hval
    by_cases hneg : a6 < 0
    · go_wp2
      go_ret
      exact ⟨rfl, HBW.out⟩
    · obtain ⟨t, rfl⟩ : ∃ t : Nat, a6 = t := ⟨a6.toNat, by omega⟩
      by_cases hbig : n ≤ t
      · go_wp2
        go_ret
        exact ⟨rfl, HBW.out⟩
      · have htn : t < n := by omega
        have htc := hrowH4 t htn
        by_cases hz : H t = 0
        · rw [hz] at htc
          clear hz
          go_wp2
          go_ret
          exact ⟨rfl, HBW.out⟩
        · have hzb : (H t == 0) = false := by simpa using hz
          have HT : Hid (H t ≠ 0) := hz
          have h0t : (0 : Int) ≤ (t : Int) := by omega
          have h1t : (t : Int) < (n : Int) := by omega
          clear hz
          go_wp2_with fail
          refine (firstEmpty_at w1.heap.size n n e H w4 (by omega) hrowH4 HF.out).mono ?_
          rintro ev w5 ⟨rfl, hw5⟩
          obtain rfl : w5 = w4 := hw5
          go_wp2_with fail
          refine (emptySegment_any n p a3 w5 HP.out).mono ?_
          rintro ev w6 ⟨rfl, hb6, hz6, hseg6, hwg6, htab6, hwt6⟩
          obtain ⟨gm, HGM⟩ : ∃ gm, Hid (w5.heap.size = gm) := ⟨_, rfl⟩
          rw [HGM.out] at hb6 hz6 hseg6 hwg6 htab6 hwt6 ⊢
          have hNg : w1.heap.size + 2 ≤ gm := by rw [← HGM.out]; exact HSZ.out
          have hrowH6 : Row w6 w1.heap.size n H := hrowH4.keep (Keeps.of_below hb6 (by omega))
          have hrowX6 : Row w6 (w1.heap.size + 1) n X := hrowX4.keep (Keeps.of_below hb6 (by omega))
          have HFR : Hid (Below w1.heap.size w1 w6 ∧ gm + 2 ≤ w6.heap.size) := ⟨HBW.out.trans (hb6.mono (by omega)), by rw [hz6]; omega⟩
          obtain ⟨T, HTD⟩ : ∃ T : Nat → Int × Int, Hid (T = fun i => (H i, X i)) := ⟨_, rfl⟩
          obtain ⟨oa, HOA⟩ : ∃ oa, Hid (oa = off n e t) := ⟨_, rfl⟩
          have hoan : oa < n := by rw [HOA.out]; exact off_lt n e t hen
          have HPT : Hid (pos n e oa = t) := by rw [HOA.out]; exact pos_off n e t hen htn
          have HT0 : Hid ((T (pos n e 0)).1 = 0) := by rw [HTD.out, pos_zero n e hen]; exact HF.out.2.1
          have HTA : Hid ((T (pos n e oa)).1 ≠ 0) := by rw [HTD.out, HPT.out]; exact HT.out
          have hoa1 : 1 ≤ oa := by
            rcases Nat.eq_zero_or_pos oa with h | h
            · exact absurd (by rw [h]; exact HT0.out) HTA.out
            · exact h
          have HVT : Hid (Valid n e T (hm p)) := by rw [HTD.out]; exact HV.out
          have hmask := fun z => i64_mask z n p HP.out.1 HP.out.2
          have HHL : Hid (∀ x, hm p x < n) := fun x => by rw [HP.out.1]; exact hm_lt p x hp16
          clear hb6 hz6 hrowH4 hrowX4 htc HSZ HB4 HB2 HB3 HZ2 HZ3 hbig hneg hzb
          go_wp2
          go_loopw [19] (fun to wr => ∃ (o : Nat) (M : Nat → Int × Int) (obj' : Int), 1 ≤ o ∧ o ≤ n ∧ to = .int .i64 o ∧ Hid (InvM n e oa T (hm p) o M) ∧ Hid (Below w1.heap.size w1 wr ∧ gm + 2 ≤ wr.heap.size) ∧ Seg wr gm (gm + 1) n obj' a3 (32 - (p : Int)) ∧ Writ wr gm 4 ∧ Tab wr (gm + 1) n M ∧ Writ wr (gm + 1) (n * 2) ∧ Row wr w1.heap.size n H ∧ Row wr (w1.heap.size + 1) n X) (fun to _ => n - (intOf to).toNat)
          case atStart => exact ⟨1, _, 0, Nat.le_refl _, by omega, rfl, inv_start n e oa T (hm p) hoan HT0.out hoa1, HFR, hseg6, hwg6, htab6, hwt6, hrowH6, hrowX6⟩
          case round =>
            clear hseg6 hwg6 htab6 hwt6 hrowH6 hrowX6 HFR
            obtain ⟨o, M, obj', ho1, hon, rfl, HI, HFR, hsegr, hwgr, htabr, hwtr, hrH, hrX⟩ := hrel
            by_cases hlt : o < n
            · have hq := pos_cast n e o
              obtain ⟨q, HQ⟩ : ∃ q, Hid (q = pos n e o) := ⟨_, rfl⟩
              rw [← HQ.out] at hq
              have hqn : q < n := by rw [HQ.out]; exact pos_lt n e o hen
              have hhq := hrH q hqn
              have hxq := hrX q hqn
              have h0q : (0 : Int) ≤ (q : Int) := by omega
              have h1q : (q : Int) < (n : Int) := by omega
              have HTQ : Hid (T (pos n e o) = (H q, X q)) := by show T (pos n e o) = (H q, X q); rw [← HQ.out, HTD.out]
              by_cases hqt : q = t
              · have hoo : o = oa := pos_inj hen hlt hoan (by rw [← HQ.out, HPT.out]; exact hqt)
                have HI2 : Hid (InvM n e oa T (hm p) (o + 1) M) := inv_skip n e oa T (hm p) o M hoan HI.out (.inl hoo)
                subst hqt
                clear hoo hhq hxq
                go_wp2
                go_roundw
                case rel => exact ⟨o + 1, M, obj', by omega, by omega, by go_num, HI2, HFR, hsegr, hwgr, htabr, hwtr, hrH, hrX⟩
                case measure => simp [intOf]; omega
              · have hqtI : ((q : Int) != (t : Int)) = true := by simp; omega
                have hoo : o ≠ oa := fun h => hqt (by rw [HQ.out, h, HPT.out])
                have HOO : Hid (o ≠ oa) := hoo
                clear hoo
                by_cases hz : H q = 0
                · have HI2 : Hid (InvM n e oa T (hm p) (o + 1) M) := inv_skip n e oa T (hm p) o M hoan HI.out (.inr (by rw [HTQ.out]; exact hz))
                  rw [hz] at hhq
                  clear hz hxq
                  go_wp2
                  go_roundw
                  case rel => exact ⟨o + 1, M, obj', by omega, by omega, by go_num, HI2, HFR, hsegr, hwgr, htabr, hwtr, hrH, hrX⟩
                  case measure => simp [intOf]; omega
                · have hzb : (H q != 0) = true := by simpa using hz
                  have hTo : (T (pos n e o)).1 ≠ 0 := by rw [HTQ.out]; exact hz
                  have hfull := probe_full n e oa T (hm p) o M HVT.out HI.out ho1 hlt hTo HHL.out hen
                  have hfree := probe_free n e oa T (hm p) o M HVT.out HI.out ho1 hlt hTo HHL.out hen
                  have hinv := inv_put n e oa T (hm p) o M hoan HTA.out hen HI.out hlt HOO.out hTo
                  rw [← hfree.2] at hinv
                  rw [HTQ.out] at hfull hfree hinv
                  have HFU : Hid (∀ j, j < dest n e oa T (hm p) o - ho n e T (hm p) o → (M ((hm p (X q) + j) % n)).1 ≠ 0) := hfull
                  have HFE : Hid ((M ((hm p (X q) + (dest n e oa T (hm p) o - ho n e T (hm p) o)) % n)).1 = 0) := hfree.1
                  have HIN : Hid (InvM n e oa T (hm p) (o + 1) (upd M ((hm p (X q) + (dest n e oa T (hm p) o - ho n e T (hm p) o)) % n) (H q, X q))) := hinv
                  clear hfull hfree hinv hz hTo
                  generalize dest n e oa T (hm p) o - ho n e T (hm p) o = kk at *
                  go_wp2
                  go_region_held3 (fun w' => w'.cell? ⟨w1.heap.size, q, none⟩ = some (.int .u32 (H q)) ∧ w'.cell? ⟨w1.heap.size + 1, q, none⟩ = some (.int .u32 (X q))) (first | exact ⟨by assumption, by assumption⟩ | go_keep)
                    ((go_at_call 13; refine (zzPut_any gm (gm + 1) n p kk M obj' a3 (H q) (X q) _ HP.out (by exact hsegr) (by exact hwgr) (by exact htabr) (by exact hwtr) (by omega) HFU.out HFE.out).mono ?_; rintro ev w8 ⟨rfl, hb8, hz8, ⟨obj8, hseg8⟩, hwg8, htab8, hwt8, hkp8⟩; have hS1 := (hrH.keep (hkp8 w1.heap.size (by show w1.heap.size < wr.heap.size; have := HFR.out.2; omega) (by omega) (by omega))) q hqn; have hS2 := (hrX.keep (hkp8 (w1.heap.size + 1) (by show w1.heap.size + 1 < wr.heap.size; have := HFR.out.2; omega) (by omega) (by omega))) q hqn))
                  go_wp2
                  go_roundw
                  case rel =>
                    have hf8 := HFR.out
                    refine ⟨o + 1, _, obj8, by omega, by omega, by go_num, HIN, ⟨hf8.1.drew.trans (hb8 _ (by omega) (by omega)), ?_⟩, hseg8, hwg8, htab8, hwt8, ?_, ?_⟩
                    · rw [hz8]; show gm + 2 ≤ wr.heap.size + 1; omega
                    · exact hrH.keep (hkp8 w1.heap.size (by show w1.heap.size < wr.heap.size; omega) (by omega) (by omega))
                    · exact hrX.keep (hkp8 (w1.heap.size + 1) (by show w1.heap.size + 1 < wr.heap.size; omega) (by omega) (by omega))
                  case measure => simp [intOf]; omega
            · have hoe : o = n := by omega
              have HIN : Hid (InvM n e oa T (hm p) n M) := by have h := HI.out; rw [hoe] at h; exact h
              clear hoe HI hmask
              have hbg0 := HFR.out.2
              go_wp2_with fail
              refine (newSegment_any w1.heap.size (w1.heap.size + 1) n n n H X a2 a3 (32 - (p : Int)) wr hn hn0 hrH hrX).mono ?_
              rintro ev w8 ⟨rfl, hb8, hz8, htab8, hwt8, hseg8, hwg8⟩
              obtain ⟨bg, HBG⟩ : ∃ bg, Hid (wr.heap.size = bg) := ⟨_, rfl⟩
              rw [HBG.out] at hb8 hz8 htab8 hwt8 hseg8 hwg8 hbg0 ⊢
              have hrH8 := hrH.keep (Keeps.of_below hb8 (by omega))
              have hrX8 := hrX.keep (Keeps.of_below hb8 (by omega))
              have hsm8 := hsegr.keep (Keeps.of_below hb8 (by omega))
              have htm8 := htabr.keep (Keeps.of_below hb8 (by omega))
              have HF8 : Hid (Below w1.heap.size w1 w8) := HFR.out.1.trans (hb8.mono (by omega))
              rw [show (fun i => (H i, X i)) = T from HTD.out.symm] at htab8
              have HZ8 : Hid (w8.heap.size = bg + 2) := hz8
              clear hb8 hz8 hrH hrX hsegr htabr hwgr hwtr HFR
              go_wp2_with fail
              refine (newSlots_any a5 w8).mono ?_
              rintro ev w9 ⟨rfl, hw9⟩
              rw [HZ8.out]
              have hk9 : ∀ b', b' < bg + 2 → Keeps w8 w9 b' := fun b' hb' => by rw [hw9]; exact Keeps.alloc _ _ (by rw [HZ8.out]; exact hb')
              have hs90 : w9.cell? ⟨bg + 2, 0, none⟩ = some (.slice none 0 0) := by rw [hw9, World.cell?_alloc_at _ _ _ _ (by rw [HZ8.out])]; rfl
              have hs91 : w9.cell? ⟨bg + 2, 1, none⟩ = some (.int .u64 0) := by rw [hw9, World.cell?_alloc_at _ _ _ _ (by rw [HZ8.out])]; rfl
              have hs92 : w9.cell? ⟨bg + 2, 2, none⟩ = some (.int .i64 a5) := by rw [hw9, World.cell?_alloc_at _ _ _ _ (by rw [HZ8.out])]; rfl
              have hfz9 : w9.frozen? ⟨bg + 2, 2, none⟩ = false := by rw [hw9, ← HZ8.out]; exact World.frozen?_alloc_new _ _ _ _
              have HF9 : Hid (Below w1.heap.size w1 w9) := by rw [hw9]; exact HF8.out.alloc (by rw [HZ8.out]; omega) _
              have HZ9 : Hid (w9.heap.size = bg + 3) := by show w9.heap.size = bg + 3; rw [hw9]; simp; exact HZ8.out
              have hseg9 := hseg8.keep (hk9 _ (by omega))
              have hwg9 := hwg8.keep (hk9 _ (by omega))
              have htab9 := htab8.keep (hk9 _ (by omega))
              have hwt9 := hwt8.keep (hk9 _ (by omega))
              have hrH9 := hrH8.keep (hk9 _ (by omega))
              have hrX9 := hrX8.keep (hk9 _ (by omega))
              have hsm9 := hsm8.keep (hk9 _ (by omega))
              have htm9 := htm8.keep (hk9 _ (by omega))
              have cR := zzRemove_any (bg + 2) (bg + 1) bg n p e oa T a2 a3 a5 w9 HP.out hen hoan hoa1 HT0.out HTA.out HVT.out hseg9 hwg9 htab9 hwt9 hs92 hfz9 (by omega) (by omega) (by omega) t HPT.out.symm
              clear hk9 hw9 hrH8 hrX8 hsm8 htm8 hseg8 hwg8 htab8 hwt8 hseg9 hwg9 htab9 hwt9 hs92 hfz9
              go_wp2_with fail
              refine cR.mono ?_
              rintro ev w10 ⟨rfl, hR⟩
              obtain ⟨hRB, hRz, hRseg, ⟨oR, hoR1, hoR2, hRtab⟩, hRs2, hRso, hRk⟩ := hR
              obtain ⟨R, HRD⟩ : ∃ R, Hid (R = upd (st n e oa T (hm p) oR).2 (pos n e (st n e oa T (hm p) oR).1) (0, 0)) := ⟨_, rfl⟩
              rw [← HRD.out] at hRtab
              have HFIN : Hid (∀ i, i < n → (R i).1 = (M i).1 ∧ (R i).2 = if (M i).1 ≠ 0 then (M i).2 else if (T i).1 = 0 then (T i).2 else 0) := fun i hi => final n e oa T (hm p) M R hen hoan HTA.out HVT.out HIN.out oR hoR1 hoR2 HRD.out i hi
              rw [HZ9.out] at hRk hRz
              have hrH10 := hrH9.keep (hRk _ (by omega) (by omega) (by omega) (by omega))
              have hrX10 := hrX9.keep (hRk _ (by omega) (by omega) (by omega) (by omega))
              have hsm10 := hsm9.keep (hRk _ (by omega) (by omega) (by omega) (by omega))
              have htm10 := htm9.keep (hRk _ (by omega) (by omega) (by omega) (by omega))
              have hs100 := (hRso 0 (by omega)).trans hs90
              have hs101 := (hRso 1 (by omega)).trans hs91
              have HF10 : Hid (Below w1.heap.size w1 w10) := HF9.out.trans (hRB _ (by omega) (by omega) (by omega))
              obtain ⟨k1, HK1⟩ : ∃ k1, Hid (w10.heap.size = k1) := ⟨_, rfl⟩
              have hk1 : bg + 4 = k1 := by rw [← HK1.out, hRz]
              have cG := fields_any (bg + 1) bg n R (wrap64 (a2 - 1)) a3 (32 - (p : Int)) w10 hn hn0 hRseg hRtab
              rw [HK1.out] at cG
              clear hrH9 hrX9 hsm9 htm9 hs90 hs91 hRso hRk hRB hRz hRseg hRtab hoR1 hoR2 cR
              go_wp2_with fail
              refine cG.mono ?_
              rintro ev w11 ⟨rfl, hb11, hz11, hrg1, hrg2⟩
              have hrH11 := hrH10.keep (Keeps.of_below hb11 (by omega))
              have hrX11 := hrX10.keep (Keeps.of_below hb11 (by omega))
              have hsm11 := hsm10.keep (Keeps.of_below hb11 (by omega))
              have htm11 := htm10.keep (Keeps.of_below hb11 (by omega))
              have hks11 := Keeps.of_below hb11 (show bg + 2 < k1 by omega)
              have hs110 := (hks11 0).1.trans hs100
              have hs111 := (hks11 1).1.trans hs101
              have hs112 := (hks11 2).1.trans hRs2
              have HF11 : Hid (Below w1.heap.size w1 w11) := HF10.out.trans (hb11.mono (by omega))
              have cM := fields_any gm (gm + 1) n M obj' a3 (32 - (p : Int)) w11 hn hn0 hsm11 htm11
              rw [hz11] at cM
              clear hb11 hz11 hks11 hrH10 hrX10 hsm10 htm10 hs100 hs101 hRs2 hsm11 htm11 cG
              go_wp2_with fail
              refine cM.mono ?_
              rintro ev w12 ⟨rfl, hb12, hz12, hrm1, hrm2⟩
              have hrH12 := hrH11.keep (Keeps.of_below hb12 (by omega))
              have hrX12 := hrX11.keep (Keeps.of_below hb12 (by omega))
              have hrg112 := hrg1.keep (Keeps.of_below hb12 (by omega))
              have hrg212 := hrg2.keep (Keeps.of_below hb12 (by omega))
              have hks12 := Keeps.of_below hb12 (show bg + 2 < k1 + 2 by omega)
              have hs120 := (hks12 0).1.trans hs110
              have hs121 := (hks12 1).1.trans hs111
              have hs122 := (hks12 2).1.trans hs112
              have HF12 : Hid (Below w1.heap.size w1 w12) := HF11.out.trans (hb12.mono (by omega))
              have cS := same_yes k1 (k1 + 2) n n n (fun i => (R i).1) w12 (by omega) hrg112 (fun i hi => by rw [(HFIN.out i hi).1]; exact hrm1 i hi)
              clear hb12 hz12 hks12 hrH11 hrX11 hrg1 hrg2 hs110 hs111 hs112 cM hrg112
              go_wp2_with fail
              refine cS.mono ?_
              rintro ev w13 ⟨rfl, q13, hw13⟩
              clear cS
              have hrH13 : Row w13 w1.heap.size n H := by rw [hw13]; exact hrH12
              have hrX13 : Row w13 (w1.heap.size + 1) n X := by rw [hw13]; exact hrX12
              have hrg13 : Row w13 (k1 + 1) n (fun i => (R i).2) := by rw [hw13]; exact hrg212
              have hrm13 : Row w13 (k1 + 2) n (fun i => (M i).1) := by rw [hw13]; exact hrm1
              have hrn13 : Row w13 (k1 + 2 + 1) n (fun i => (M i).2) := by rw [hw13]; exact hrm2
              have hs130 : w13.cell? ⟨bg + 2, 0, none⟩ = some (.slice none 0 0) := by rw [hw13]; exact hs120
              have hs131 : w13.cell? ⟨bg + 2, 1, none⟩ = some (.int .u64 0) := by rw [hw13]; exact hs121
              have hs132 : w13.cell? ⟨bg + 2, 2, none⟩ = some (.int .i64 (wrap64 (a5 - 1))) := by rw [hw13]; exact hs122
              have HF13 : Hid (Below w1.heap.size w1 w13) := by rw [hw13]; have h := HF12.out; exact ⟨h.os, h.tape, h.output, h.size, h.block⟩
              clear hw13 hrH12 hrX12 hrg212 hrm1 hrm2 hs120 hs121 hs122
              have cF := slotsFields_any (bg + 2) (wrap64 (a5 - 1)) w13 hs130 hs131 hs132
              have CF : Hid (Calls Try.prog 19 #[.pointer (some ⟨bg + 2, 0, none⟩)] w13 fun e w' => e = .returned (.tuple #[.slice none 0 0, .int .u64 0, .int .i64 (wrap64 (a5 - 1))]) ∧ ∃ q, w' = w13.drewN q) := cF
              have HTi : Hid (∀ i, T i = (H i, X i)) := fun i => by rw [HTD.out]
              clear cF hs130 hs131 hs132
              go_wp2
              go_loop [33] (fun ti => ∃ i : Nat, i ≤ n ∧ ti = .int .i64 i) (fun ti => n - (intOf ti).toNat)
              case atStart => exact ⟨0, Nat.zero_le _, rfl⟩
              case round =>
                obtain ⟨i, hin, rfl⟩ := hrel
                by_cases hil : i < n
                · have hHi : w13.cell? ⟨w1.heap.size, i, none⟩ = some (.int .u32 (H i)) := hrH13 i hil
                  have hXi : w13.cell? ⟨w1.heap.size + 1, i, none⟩ = some (.int .u32 (X i)) := hrX13 i hil
                  have hgi : w13.cell? ⟨k1 + 1, i, none⟩ = some (.int .u32 (R i).2) := hrg13 i hil
                  have hmi : w13.cell? ⟨k1 + 2, i, none⟩ = some (.int .u32 (M i).1) := hrm13 i hil
                  have hni : w13.cell? ⟨k1 + 2 + 1, i, none⟩ = some (.int .u32 (M i).2) := hrn13 i hil
                  have hfi := (HFIN.out i hil).2
                  rw [HTi.out i] at hfi
                  have h0i : (0 : Int) ≤ (i : Int) := by omega
                  have h1i : (i : Int) < (n : Int) := by omega
                  clear hrH13 hrX13 hrg13 hrm13 hrn13
                  by_cases hM : (M i).1 = 0
                  · rw [if_neg (fun h => h hM)] at hfi
                    rw [hM] at hmi
                    by_cases hH : H i = 0
                    · rw [if_pos hH] at hfi
                      rw [hfi] at hgi
                      rw [hH] at hHi
                      clear hM hH hfi
                      go_wp2
                      go_round
                      case rel => exact ⟨i + 1, by omega, by go_num⟩
                      case measure => simp [intOf]; omega
                    · rw [if_neg hH] at hfi
                      rw [hfi] at hgi
                      have hHb : (H i == 0) = false := by simpa using hH
                      clear hM hH hfi
                      go_wp2
                      go_round
                      case rel => exact ⟨i + 1, by omega, by go_num⟩
                      case measure => simp [intOf]; omega
                  · rw [if_pos hM] at hfi
                    rw [hfi] at hgi
                    have hMb : ((M i).1 != 0) = true := by simpa using hM
                    clear hM hfi
                    go_wp2
                    go_round
                    case rel => exact ⟨i + 1, by omega, by go_num⟩
                    case measure => simp [intOf]; omega
                · have heq := eq52
                  clear hrH13 hrX13 hrg13 hrm13 hrn13
                  go_wp2_with fail
                  refine CF.out.mono ?_
                  rintro ev w14 ⟨rfl, q14, hw14⟩
                  have HF14 : Hid (Below w1.heap.size w1 w14) := by rw [hw14]; have h := HF13.out; exact ⟨h.os, h.tape, h.output, h.size, h.block⟩
                  clear hw14
                  go_wp2
                  go_ret
                  exact ⟨rfl, HF14.out⟩
end Go.Proofs.Qxb6604790a
