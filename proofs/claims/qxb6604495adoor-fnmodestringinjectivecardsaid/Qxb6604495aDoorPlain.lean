/-
  The plain law of 'FnModeStringInjective': no Go in sight. The decimal numeral is one-to-one; so is a mode's text.
-/
import Derived.Lib.ItoaNum
namespace Go.Proofs.Qxb6604495aDoor
namespace Plain

/-- The number that a row of digits spells. -/
def val (l : List UInt8) : Nat := l.foldl (fun a c => a * 10 + (c.toNat - 48)) 0

theorem val_snoc (l : List UInt8) (c : UInt8) : val (l ++ [c]) = val l * 10 + (c.toNat - 48) := by
  simp [val, List.foldl_append]

theorem digit_toNat (k : Nat) (h : k < 10) : (UInt8.ofNat (48 + k)).toNat = 48 + k := by
  rw [UInt8.toNat_ofNat']
  exact Nat.mod_eq_of_lt (by omega)

theorem val_decDigits : ∀ n u : Nat, u ≤ n → val (Go.Lib.decDigits u) = u := by
  intro n
  induction n with
  | zero =>
    intro u hu
    obtain rfl : u = 0 := by omega
    rw [Go.Lib.decDigits, dif_pos (by omega)]
    rfl
  | succ n ih =>
    intro u hu
    rw [Go.Lib.decDigits]
    by_cases h : u < 10
    · rw [dif_pos h]
      show 0 * 10 + ((UInt8.ofNat (48 + u)).toNat - 48) = u
      rw [digit_toNat u h]
      omega
    · rw [dif_neg h, val_snoc, ih (u / 10) (by omega), digit_toNat _ (by omega)]
      omega

theorem decDigits_inj {a b : Nat} (h : Go.Lib.decDigits a = Go.Lib.decDigits b) : a = b := by
  rw [← val_decDigits a a (Nat.le_refl _), h, val_decDigits b b (Nat.le_refl _)]

theorem decDigits_head : ∀ n u : Nat, u ≤ n → ∃ c l, Go.Lib.decDigits u = c :: l ∧ c ≠ 45 := by
  intro n
  induction n with
  | zero =>
    intro u hu
    obtain rfl : u = 0 := by omega
    rw [Go.Lib.decDigits, dif_pos (by omega)]
    exact ⟨_, _, rfl, by decide⟩
  | succ n ih =>
    intro u hu
    rw [Go.Lib.decDigits]
    by_cases h : u < 10
    · rw [dif_pos h]
      refine ⟨_, _, rfl, fun e => ?_⟩
      have := congrArg UInt8.toNat e
      rw [digit_toNat u h] at this
      simp at this
      omega
    · rw [dif_neg h]
      obtain ⟨c, l, e, hc⟩ := ih (u / 10) (by omega)
      rw [e]
      exact ⟨c, _, rfl, hc⟩

theorem itoa_inj {a b : Int} (h : Go.Lib.itoa a = Go.Lib.itoa b) : a = b := by
  unfold Go.Lib.itoa at h
  by_cases ha : a < 0
  · by_cases hb : b < 0
    · rw [if_pos ha, if_pos hb] at h
      have := decDigits_inj (List.cons.inj h).2
      omega
    · rw [if_pos ha, if_neg hb] at h
      obtain ⟨c, l, e, hc⟩ := decDigits_head b.toNat b.toNat (Nat.le_refl _)
      rw [e] at h
      exact absurd (List.cons.inj h).1.symm hc
  · by_cases hb : b < 0
    · rw [if_neg ha, if_pos hb] at h
      obtain ⟨c, l, e, hc⟩ := decDigits_head a.toNat a.toNat (Nat.le_refl _)
      rw [e] at h
      exact absurd (List.cons.inj h).1 hc
    · rw [if_neg ha, if_neg hb] at h
      have := decDigits_inj h
      omega

/-- A mode's text. -/
def modeText (m : Int) : List UInt8 :=
  if m = 0 then [101, 120, 99, 108, 117, 115, 105, 118, 101]
  else if m = 1 then [115, 104, 97, 114, 101, 100]
  else [77, 111, 100, 101, 40] ++ Go.Lib.itoa m ++ [41]

theorem modeText_inj {a b : Int} (h : modeText a = modeText b) : a = b := by
  unfold modeText at h
  by_cases a0 : a = 0
  · by_cases b0 : b = 0
    · omega
    · by_cases b1 : b = 1
      · rw [if_pos a0, if_neg b0, if_pos b1] at h
        simp at h
      · rw [if_pos a0, if_neg b0, if_neg b1] at h
        simp at h
  · by_cases a1 : a = 1
    · by_cases b0 : b = 0
      · rw [if_neg a0, if_pos a1, if_pos b0] at h
        simp at h
      · by_cases b1 : b = 1
        · omega
        · rw [if_neg a0, if_pos a1, if_neg b0, if_neg b1] at h
          simp at h
    · by_cases b0 : b = 0
      · rw [if_neg a0, if_neg a1, if_pos b0] at h
        simp at h
      · by_cases b1 : b = 1
        · rw [if_neg a0, if_neg a1, if_neg b0, if_pos b1] at h
          simp at h
        · rw [if_neg a0, if_neg a1, if_neg b0, if_neg b1] at h
          exact itoa_inj (List.append_cancel_left (List.append_cancel_right h))

end Plain
end Go.Proofs.Qxb6604495aDoor
