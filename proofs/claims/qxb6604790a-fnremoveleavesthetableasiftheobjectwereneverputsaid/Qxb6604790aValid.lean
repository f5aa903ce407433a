/-
  zzl1Valid, zzl1TableDomain.
-/
import Derived.Test.Qxb6604790aHome
import Derived.Test.Qxb6604790aPlain
import Derived.Test.Qxb6604790aSeg
namespace Go.Proofs.Qxb6604790a
open Go.RowKit

theorem first_unique {A : Nat → Int} {n a b : Nat} (ha : First A n a) (hb : First A n b) : a = b := by
  rcases Nat.lt_trichotomy a b with h | h | h
  · exact absurd ha.2.1 (hb.2.2 a h)
  · exact h
  · exact absurd hb.2.1 (ha.2.2 b h)

theorem firstEmpty_at (b n c e : Nat) (A : Nat → Int) (w : World) (hn : n ≤ 1048576) (hc : Row w b n A) (hf : First A n e) :
    Calls Try.prog 11 #[.slice (some ⟨b, 0, none⟩) n c] w fun ev w' => ev = .returned (.int .i64 e) ∧ w' = w :=
  (firstEmpty_any b n c A w hn hc).mono fun ev w' h => by
    obtain ⟨rfl, ⟨_, h2⟩ | ⟨k, rfl, h2⟩⟩ := h
    · exact absurd hf.2.1 (h2 e hf.1)
    · rw [first_unique hf h2]; exact ⟨rfl, rfl⟩

theorem pos_cast (n e o : Nat) : ((e : Int) + (o : Int)) % (n : Int) = ((pos n e o : Nat) : Int) := by
  unfold pos; rw [Int.natCast_emod]; rfl
theorem off_cast (n e x : Nat) (he : e < n) : ((x : Int) - (e : Int)) % (n : Int) = ((off n e x : Nat) : Int) := by
  unfold off
  rw [Int.natCast_emod, show ((x + n - e : Nat) : Int) = (x : Int) - (e : Int) + (n : Int) by omega, Int.add_emod_right]

/-- What the loop has shown when it stands at offset o, the last run of used slots beginning at r. -/
def UpTo (n e p : Nat) (T : Nat → Int × Int) (o r : Nat) : Prop :=
  (∀ k, r ≤ k → k < o → (T (pos n e k)).1 ≠ 0) ∧ ∀ q, 1 ≤ q → q < o → (T (pos n e q)).1 ≠ 0 → ho n e T (hm p) q ≤ q ∧ ∀ k, ho n e T (hm p) q ≤ k → k ≤ q → (T (pos n e k)).1 ≠ 0

theorem upTo_empty {n e p o r : Nat} {T : Nat → Int × Int} (h : UpTo n e p T o r) (hz : (T (pos n e o)).1 = 0) : UpTo n e p T (o + 1) (o + 1) := by
  refine ⟨fun k h1 h2 => by omega, fun q h1 h2 hT => ?_⟩
  by_cases e1 : q = o
  · subst e1; exact absurd hz hT
  · exact h.2 q h1 (by omega) hT
theorem upTo_used {n e p o r : Nat} {T : Nat → Int × Int} (h : UpTo n e p T o r) (hz : (T (pos n e o)).1 ≠ 0) (h1 : r ≤ ho n e T (hm p) o) (h2 : ho n e T (hm p) o ≤ o) : UpTo n e p T (o + 1) r := by
  have hrun : ∀ k, r ≤ k → k < o + 1 → (T (pos n e k)).1 ≠ 0 := fun k h3 h4 => by
    by_cases e1 : k = o
    · subst e1; exact hz
    · exact h.1 k h3 (by omega)
  refine ⟨hrun, fun q h3 h4 hT => ?_⟩
  by_cases e1 : q = o
  · subst e1; exact ⟨h2, fun k h5 h6 => hrun k (by omega) (by omega)⟩
  · exact h.2 q h3 (by omega) hT

/-- The call answers a bool, and a yes says P. -/
def Verdict (ev : Ending) (P : Prop) : Prop := ∃ β : Bool, ev = .returned (.bool β) ∧ (β = true → P)
theorem Verdict.no (P : Prop) : Verdict (.returned (.bool false)) P := ⟨false, rfl, fun h => by cases h⟩
theorem Verdict.yes {P : Prop} (h : P) : Verdict (.returned (.bool true)) P := ⟨true, rfl, fun _ => h⟩

set_option maxHeartbeats 1000000 in
theorem valid_any (g bh bx n p ch cx e : Nat) (H X : Nat → Int) (w : World) (hp : Pow n p) (hh : Row w bh n H) (hx : Row w bx n X) (hs3 : w.cell? ⟨g, 3, none⟩ = some (.int .u64 (32 - (p : Int)))) (hf : First H n e) :
    Calls Try.prog 24 #[.pointer (some ⟨g, 0, none⟩), .slice (some ⟨bh, 0, none⟩) n ch, .slice (some ⟨bx, 0, none⟩) n cx] w fun ev w' => w' = w ∧ Verdict ev (Valid n e (fun i => (H i, X i)) (hm p)) := by
  have hmask := fun z => i64_mask z n p hp.1 hp.2
  have hle : n ≤ 65536 := by rw [hp.1]; exact Nat.pow_le_pow_right (by omega) hp.2
  have hp16 := hp.2
  have hhl : ∀ x, hm p x < n := fun x => by rw [hp.1]; exact hm_lt p x hp.2
  have he := hf.1
  have c := firstEmpty_at bh n ch e H w (by omega) hh hf
  have HHL : Hid (∀ x, hm p x < n) := hhl
  clear hp hhl hf
  have hcH := fun x => zzHome_any g p x w hp16 hs3
  have HCH : Hid (∀ x, Calls Try.prog 28 #[.pointer (some ⟨g, 0, none⟩), .int .u32 x] w fun e w' => e = .returned (.int .i64 (hm p x)) ∧ w' = w) := hcH
  clear hcH
  go_enter Try.func24, Try.ntmps24
  go_wp2_with fail
  refine c.mono ?_
  rintro ev w1 ⟨rfl, hw1⟩
  obtain rfl : w1 = w := hw1
  clear c
  go_wp2
  go_loop [10, 11] (fun tr to => ∃ r o : Nat, 1 ≤ o ∧ o ≤ n ∧ r ≤ o ∧ tr = .int .i64 r ∧ to = .int .i64 o ∧ Hid (UpTo n e p (fun i => (H i, X i)) o r)) (fun _ to => n - (intOf to).toNat)
  case atStart => exact ⟨1, 1, Nat.le_refl _, by omega, Nat.le_refl _, rfl, rfl, ⟨fun k h1 h2 => by omega, fun q h1 h2 => by omega⟩⟩
  case round =>
    obtain ⟨r, o, ho1, hon, hro, rfl, rfl, HU⟩ := hrel
    by_cases hlt : o < n
    · have hq := pos_cast n e o
      obtain ⟨q, HQ⟩ : ∃ q, Hid (q = pos n e o) := ⟨_, rfl⟩
      rw [← HQ.out] at hq
      have hqn : q < n := by rw [HQ.out]; exact pos_lt n e o he
      have hhq := hh q hqn
      have hxq := hx q hqn
      have h0q : (0 : Int) ≤ (q : Int) := by omega
      have h1q : (q : Int) < (n : Int) := by omega
      clear hh hx
      by_cases hz : H q = 0
      · have HZ : Hid (H q = 0) := hz
        rw [hz] at hhq
        clear hz
        go_wp2
        go_round
        case rel => exact ⟨o + 1, o + 1, by omega, by omega, Nat.le_refl _, by go_num, by go_num, upTo_empty HU.out (by rw [← HQ.out]; exact HZ.out)⟩
        case measure => simp [intOf]; omega
      · have hzb : (H q == 0) = false := by simpa using hz
        have HZ : Hid (H q ≠ 0) := hz
        have hoff := off_cast n e (hm p (X q)) he
        have hxl := HHL.out (X q)
        have cH := HCH.out (X q)
        generalize hxx : hm p (X q) = x at *
        have HX : Hid (hm p (X q) = x) := hxx
        obtain ⟨y, HY⟩ : ∃ y, Hid (y = off n e x) := ⟨_, rfl⟩
        rw [← HY.out] at hoff
        have hyn : y < n := by rw [HY.out]; exact off_lt n e x he
        have HYO : Hid (y = ho n e (fun i => (H i, X i)) (hm p) o) := by
          show y = off n e (hm p (X (pos n e o)))
          rw [← HQ.out, hxx]
          exact HY.out
        clear hz hxx
        go_wp2_with fail
        refine cH.mono ?_
        rintro ev w2 ⟨rfl, hw2⟩
        obtain rfl : w2 = w1 := hw2
        clear cH
        by_cases hb1 : y < r
        · go_wp2
          go_ret
          exact ⟨rfl, Verdict.no _⟩
        · by_cases hb2 : o < y
          · go_wp2
            go_ret
            exact ⟨rfl, Verdict.no _⟩
          · go_wp2
            go_round
            case rel => exact ⟨r, o + 1, by omega, by omega, by omega, rfl, by go_num, upTo_used HU.out (by rw [← HQ.out]; exact HZ.out) (by rw [← HYO.out]; omega) (by rw [← HYO.out]; omega)⟩
            case measure => simp [intOf]; omega
    · have hkn : o = n := by omega
      subst hkn
      go_wp2
      go_ret
      exact ⟨rfl, Verdict.yes HU.out.2⟩

/-- What a table that zzl1TableDomain takes is. -/
def Dom (n p : Nat) (H X : Nat → Int) (sh : Int) : Prop := Pow n p ∧ sh = 32 - (p : Int) ∧ ∃ e, First H n e ∧ Valid n e (fun i => (H i, X i)) (hm p)

theorem exists_first {A : Nat → Int} {n : Nat} (h : ¬ ∀ i, i < n → A i ≠ 0) : ∃ k, First A n k := by
  induction n with
  | zero => exact absurd (fun i hi => absurd hi (Nat.not_lt_zero _)) h
  | succ n ih =>
    by_cases h1 : ∀ i, i < n → A i ≠ 0
    · refine ⟨n, Nat.lt_succ_self _, ?_, h1⟩
      refine Decidable.byContradiction fun h2 => h (all_succ h1 h2)
    · obtain ⟨k, hk⟩ := ih h1
      exact ⟨k, by have := hk.1; omega, hk.2⟩

theorem domain_lens (a0 a1 : Option Addr) (n0 c0 n1 c1 : Nat) (sh : Int) (w : World) (h : n0 ≠ n1) :
    Calls Try.prog 10 #[.slice a0 n0 c0, .slice a1 n1 c1, .int .u64 sh, .int .i64 1] w fun ev w' => ev = .returned (.bool false) ∧ w' = w := by
  have hb : ((n0 : Int) == (n1 : Int)) = false := by simp; omega
  go_enter Try.func10, Try.ntmps10
  go_wp2
  go_ret
  exact ⟨rfl, rfl⟩
theorem domain_zero (a0 a1 : Option Addr) (c0 c1 : Nat) (sh : Int) (w : World) :
    Calls Try.prog 10 #[.slice a0 0 c0, .slice a1 0 c1, .int .u64 sh, .int .i64 1] w fun ev w' => ev = .returned (.bool false) ∧ w' = w := by
  go_enter Try.func10, Try.ntmps10
  go_wp2_with fail
  refine (pow2_zero w).mono ?_
  rintro ev w1 ⟨hw1, rfl⟩
  obtain rfl : w1 = w := hw1
  go_wp2
  go_ret
  exact ⟨rfl, rfl⟩

set_option maxHeartbeats 1000000 in
theorem domain_any (bh bx n ch cx : Nat) (H X : Nat → Int) (sh : Int) (w : World) (hn : n ≤ 65536) (hn0 : 0 < n) (hh : Row w bh n H) (hx : Row w bx n X) :
    Calls Try.prog 10 #[.slice (some ⟨bh, 0, none⟩) n ch, .slice (some ⟨bx, 0, none⟩) n cx, .int .u64 sh, .int .i64 1] w fun ev w' => Below w.heap.size w w' ∧ Verdict ev (∃ p, Dom n p H X sh) := by
  have cP := pow2_any n w hn hn0
  go_enter Try.func10, Try.ntmps10
  go_wp2_with fail
  refine cP.mono ?_
  rintro ev w1 ⟨hw1, β, rfl, hβ⟩
  obtain rfl : w1 = w := hw1
  clear cP
  cases β with
  | false =>
    go_wp2
    go_ret
    exact ⟨Below.refl _ _, Verdict.no _⟩
  | true =>
    obtain ⟨p, hp⟩ := hβ rfl
    have HP : Hid (Pow n p) := hp
    clear hβ hp
    go_wp2_with fail
    refine (shift_any n p w1 HP.out).mono ?_
    rintro ev w2 ⟨rfl, hw2⟩
    obtain rfl : w2 = w1 := hw2
    by_cases hsh : sh = 32 - (p : Int)
    · have HSH : Hid (sh = 32 - (p : Int)) := hsh
      subst hsh
      go_wp2_with fail
      refine (count_any bh n ch H w2 (by omega) hh).mono ?_
      rintro ev w3 ⟨hw3, m, rfl, hm1, hm2⟩
      obtain rfl : w3 = w2 := hw3
      have HM : Hid ((∀ i, i < n → H i ≠ 0) → m = n) := hm2
      clear hm2
      by_cases hmn : m < n
      · obtain ⟨e, hfe⟩ := exists_first (fun h => absurd (HM.out h) (by omega))
        have HE : Hid (First H n e) := hfe
        clear hfe
        go_wp2_with fail
        refine (newSegment_any bh bx n ch cx H X 0 0 (32 - (p : Int)) w3 hn hn0 hh hx).mono ?_
        rintro ev w4 ⟨rfl, hb4, hz4, _, _, hseg, _⟩
        have HB : Hid (Below w3.heap.size w3 w4) := hb4
        have HZ4 : Hid (w4.heap.size = w3.heap.size + 2) := hz4
        have hbh : bh < w3.heap.size := by
          rcases Nat.lt_or_ge bh w3.heap.size with h | h
          · exact h
          · have := hh 0 hn0
            simp [World.cell?, Array.getElem?_eq_none h] at this
        have hbx : bx < w3.heap.size := by
          rcases Nat.lt_or_ge bx w3.heap.size with h | h
          · exact h
          · have := hx 0 hn0
            simp [World.cell?, Array.getElem?_eq_none h] at this
        have c := valid_any (w3.heap.size + 1) bh bx n p ch cx e H X w4 HP.out (hh.keep (Keeps.of_below hb4 hbh)) (hx.keep (Keeps.of_below hb4 hbx)) hseg.2.2.2 HE.out
        clear hb4 hz4 hseg
        go_wp2_with fail
        refine c.mono ?_
        rintro ev w5 ⟨hw5, hver⟩
        obtain rfl : w5 = w4 := hw5
        obtain ⟨γ, rfl, hγ⟩ := hver
        have HG : Hid (γ = true → Valid n e (fun i => (H i, X i)) (hm p)) := hγ
        clear hγ c
        go_wp2
        go_ret
        exact ⟨HB.out, γ, rfl, fun h => ⟨p, HP.out, rfl, e, HE.out, HG.out h⟩⟩
      · go_wp2
        go_ret
        exact ⟨Below.refl _ _, Verdict.no _⟩
    · have hb : (sh == 32 - (p : Int)) = false := by simpa using hsh
      go_wp2
      go_ret
      exact ⟨Below.refl _ _, Verdict.no _⟩
end Go.Proofs.Qxb6604790a
