/-
  The plain law of linear probing: backward-shift removal leaves the table that the other objects, put in the order of their places read round from an empty slot, make. No Go in sight (but for the name 'upd' of a table with one slot turned).
-/
import Derived.Test.Qxb6604790aBase
namespace Go.Proofs.Qxb6604790a

theorem ite_iff {a b : Prop} [Decidable a] [Decidable b] {α : Type} (h : a ↔ b) (x y : α) : (if a then x else y) = if b then x else y := by
  by_cases ha : a
  · rw [if_pos ha, if_pos (h.1 ha)]
  · rw [if_neg ha, if_neg (fun hb => ha (h.2 hb))]

/-- The place at offset o from e, read round. -/
def pos (n e o : Nat) : Nat := (e + o) % n
/-- The offset of the place i from e. -/
def off (n e i : Nat) : Nat := (i + n - e) % n

theorem mod_two (n x : Nat) (h : x < 2 * n) : x % n = if x < n then x else x - n := by
  by_cases h1 : x < n
  · rw [if_pos h1, Nat.mod_eq_of_lt h1]
  · rw [if_neg h1, Nat.mod_eq_sub_mod (by omega), Nat.mod_eq_of_lt (by omega)]
theorem pos_eq (n e o : Nat) (he : e < n) (ho : o < n) : pos n e o = if e + o < n then e + o else e + o - n := mod_two n _ (by omega)
theorem off_eq (n e i : Nat) (he : e < n) (hi : i < n) : off n e i = if i + n - e < n then i + n - e else i + n - e - n := mod_two n _ (by omega)
theorem pos_lt (n e o : Nat) (he : e < n) : pos n e o < n := Nat.mod_lt _ (by omega)
theorem off_lt (n e i : Nat) (he : e < n) : off n e i < n := Nat.mod_lt _ (by omega)
theorem pos_off (n e i : Nat) (he : e < n) (hi : i < n) : pos n e (off n e i) = i := by
  rw [pos_eq n e _ he (off_lt n e i he), off_eq n e i he hi]
  split <;> split <;> omega
theorem off_pos (n e o : Nat) (he : e < n) (ho : o < n) : off n e (pos n e o) = o := by
  rw [off_eq n e _ he (pos_lt n e o he), pos_eq n e o he ho]
  split <;> split <;> omega
theorem pos_inj {n e a b : Nat} (he : e < n) (ha : a < n) (hb : b < n) (h : pos n e a = pos n e b) : a = b := by
  rw [← off_pos n e a he ha, h, off_pos n e b he hb]
theorem pos_zero (n e : Nat) (he : e < n) : pos n e 0 = e := Nat.mod_eq_of_lt he
theorem pos_full (n e : Nat) (he : e < n) : pos n e n = e := by
  unfold pos; rw [Nat.add_mod_right]; exact Nat.mod_eq_of_lt he
theorem pos_succ (n e o : Nat) : (pos n e o + 1) % n = pos n e (o + 1) := by
  unfold pos; rw [Nat.mod_add_mod]; rfl
theorem pos_add (n e a k : Nat) : (pos n e a + k) % n = pos n e (a + k) := by
  unfold pos; rw [Nat.mod_add_mod, Nat.add_assoc]

section
variable (n e oa : Nat) (T : Nat → Int × Int) (h : Int → Nat)

/-- The offset of the home of the object at offset o. -/
def ho (o : Nat) : Nat := off n e (h (T (pos n e o)).2)

/-- Every object lies in the unbroken run of used slots that begins at its home. -/
def Valid : Prop := ∀ o, 1 ≤ o → o < n → (T (pos n e o)).1 ≠ 0 → ho n e T h o ≤ o ∧ ∀ k, ho n e T h o ≤ k → k ≤ o → (T (pos n e k)).1 ≠ 0

/-- The hole (an offset; n: none yet) and the table when the offsets below o have been looked at. -/
def st : Nat → Nat × (Nat → Int × Int)
  | 0 => (n, T)
  | o + 1 => if o = oa then (oa, T) else if (T (pos n e o)).1 ≠ 0 ∧ (st o).1 < o ∧ ho n e T h o ≤ (st o).1 then (o, upd (st o).2 (pos n e (st o).1) (T (pos n e o))) else st o

theorem st_low (o : Nat) (ho1 : o ≤ oa) (hoa : oa < n) : st n e oa T h o = (n, T) := by
  induction o with
  | zero => rfl
  | succ o ih =>
    rw [st, if_neg (by omega), ih (by omega), if_neg]
    simp only [not_and]
    intro _ h1
    omega
theorem st_at : st n e oa T h (oa + 1) = (oa, T) := by rw [st, if_pos rfl]

theorem st_hole (o : Nat) (h1 : oa < o) (hT : (T (pos n e oa)).1 ≠ 0) : oa ≤ (st n e oa T h o).1 ∧ (st n e oa T h o).1 < o ∧ (T (pos n e (st n e oa T h o).1)).1 ≠ 0 := by
  induction o with
  | zero => omega
  | succ o ih =>
    by_cases ho1 : o = oa
    · subst ho1
      rw [st_at]
      exact ⟨Nat.le_refl _, Nat.lt_succ_self _, hT⟩
    · obtain ⟨i1, i2, i3⟩ := ih (by omega)
      rw [st, if_neg ho1]
      split
      · rename_i hc
        exact ⟨by show oa ≤ o; omega, Nat.lt_succ_self _, hc.1⟩
      · exact ⟨i1, by omega, i3⟩

theorem st_same (o : Nat) (he : e < n) (hoa : oa < n) (hT : (T (pos n e oa)).1 ≠ 0) (ho1 : o ≤ n) : ∀ k, k < n → (o ≤ k ∨ (T (pos n e k)).1 = 0) → (st n e oa T h o).2 (pos n e k) = T (pos n e k) := by
  induction o with
  | zero => intro k _ _; rfl
  | succ o ih =>
    intro k hk hc
    by_cases h1 : o = oa
    · subst h1
      rw [st_at]
    · have i := ih (by omega) k hk (by rcases hc with hc | hc; exact .inl (by omega); exact .inr hc)
      rw [st, if_neg h1]
      split
      · rename_i hm
        have hlt : oa < o := by
          rcases Nat.lt_or_ge oa o with h2 | h2
          · exact h2
          · rw [st_low n e oa T h o h2 hoa] at hm
            have := hm.2.1
            simp only at this
            omega
        obtain ⟨_, j2, j3⟩ := st_hole n e oa T h o hlt hT
        have hne : pos n e k ≠ pos n e (st n e oa T h o).1 := by
          intro eq
          have := pos_inj he hk (by omega) eq
          rcases hc with hc | hc
          · omega
          · rw [this] at hc; exact j3 hc
        show upd _ _ _ _ = _
        rw [upd, if_neg hne]
        exact i
      · exact i

theorem st_full (o : Nat) : ∀ k, k < n → (T (pos n e k)).1 ≠ 0 → ((st n e oa T h o).2 (pos n e k)).1 ≠ 0 := by
  induction o with
  | zero => intro k _ hk; exact hk
  | succ o ih =>
    intro k hk hT
    by_cases h1 : o = oa
    · subst h1
      rw [st_at]
      exact hT
    · have i := ih k hk hT
      rw [st, if_neg h1]
      split
      · rename_i hm
        show (upd _ _ _ _).1 ≠ 0
        rw [upd]
        split
        · exact hm.1
        · exact i
      · exact i

/-- What the table of the objects that have been put holds, when those at the offsets below o have been put. -/
def InvM (o : Nat) (M : Nat → Int × Int) : Prop := ∀ k, k < n → M (pos n e k) = if o ≤ k ∨ (T (pos n e k)).1 = 0 ∨ k = (st n e oa T h o).1 then (0, 0) else (st n e oa T h o).2 (pos n e k)

theorem inv_start (hoa : oa < n) (hT0 : (T (pos n e 0)).1 = 0) (hoa1 : 1 ≤ oa) : InvM n e oa T h 1 (fun _ => (0, 0)) := fun k _ => by
  rw [st_low n e oa T h 1 hoa1 hoa]
  by_cases h1 : 1 ≤ k
  · rw [if_pos (.inl h1)]
  · obtain rfl : k = 0 := by omega
    rw [if_pos (.inr (.inl hT0))]

theorem inv_skip (o : Nat) (M : Nat → Int × Int) (hoa : oa < n) (hi : InvM n e oa T h o M) (hs : o = oa ∨ (T (pos n e o)).1 = 0) : InvM n e oa T h (o + 1) M := fun k hk => by
  rw [hi k hk]
  by_cases h1 : o = oa
  · subst h1
    rw [st_at, st_low n e o T h o (Nat.le_refl _) hoa]
    by_cases hk1 : k = o
    · subst hk1
      rw [if_pos (.inl (Nat.le_refl _)), if_pos (.inr (.inr rfl))]
    · by_cases hc : o ≤ k ∨ (T (pos n e k)).1 = 0
      · rw [if_pos (by rcases hc with hc | hc; exact .inl hc; exact .inr (.inl hc)), if_pos (by rcases hc with hc | hc; exact .inl (by omega); exact .inr (.inl hc))]
      · simp only [not_or] at hc
        rw [if_neg (by simp only [not_or]; exact ⟨hc.1, hc.2, by omega⟩), if_neg (by simp only [not_or]; exact ⟨by omega, hc.2, by omega⟩)]
  · have hz : (T (pos n e o)).1 = 0 := by rcases hs with hs | hs; exact absurd hs h1; exact hs
    have e1 : st n e oa T h (o + 1) = st n e oa T h o := by rw [st, if_neg h1, if_neg (fun hc => hc.1 hz)]
    rw [e1]
    by_cases hk1 : k = o
    · subst hk1
      rw [if_pos (.inl (Nat.le_refl _)), if_pos (.inr (.inl hz))]
    · exact ite_iff (show (o ≤ k ∨ (T (pos n e k)).1 = 0 ∨ k = (st n e oa T h o).1) ↔ (o + 1 ≤ k ∨ (T (pos n e k)).1 = 0 ∨ k = (st n e oa T h o).1) from or_congr_left (by omega)) _ _

/-- Where the object at offset o comes to lie when it is put. -/
def dest (o : Nat) : Nat := if (st n e oa T h o).1 < o ∧ ho n e T h o ≤ (st n e oa T h o).1 then (st n e oa T h o).1 else o

theorem dest_le (o : Nat) : dest n e oa T h o ≤ o := by
  unfold dest; split
  · rename_i hc; exact Nat.le_of_lt hc.1
  · exact Nat.le_refl _
theorem ho_le_dest (o : Nat) (hv : Valid n e T h) (ho1 : 1 ≤ o) (hon : o < n) (hT : (T (pos n e o)).1 ≠ 0) : ho n e T h o ≤ dest n e oa T h o := by
  unfold dest; split
  · rename_i hc; exact hc.2
  · exact (hv o ho1 hon hT).1

/-- The probe passes over used slots alone .. -/
theorem probe_full (o : Nat) (M : Nat → Int × Int) (hv : Valid n e T h) (hi : InvM n e oa T h o M) (ho1 : 1 ≤ o) (hon : o < n) (hT : (T (pos n e o)).1 ≠ 0) (hhl : ∀ x, h x < n) (he : e < n)
    (j : Nat) (hj : j < dest n e oa T h o - ho n e T h o) : (M ((h (T (pos n e o)).2 + j) % n)).1 ≠ 0 := by
  have hd := dest_le n e oa T h o
  have hpo : pos n e (ho n e T h o) = h (T (pos n e o)).2 := pos_off n e _ he (hhl _)
  rw [← hpo, pos_add]
  have hTk := (hv o ho1 hon hT).2 (ho n e T h o + j) (by omega) (by omega)
  rw [hi _ (by omega), if_neg]
  · exact st_full n e oa T h o _ (by omega) hTk
  · simp only [not_or]
    refine ⟨by omega, hTk, fun eq => ?_⟩
    unfold dest at hj
    split at hj
    · omega
    · rename_i hc
      exact hc ⟨by omega, by omega⟩
/-- .. and ends at an empty one. -/
theorem probe_free (o : Nat) (M : Nat → Int × Int) (hv : Valid n e T h) (hi : InvM n e oa T h o M) (ho1 : 1 ≤ o) (hon : o < n) (hT : (T (pos n e o)).1 ≠ 0) (hhl : ∀ x, h x < n) (he : e < n) :
    (M ((h (T (pos n e o)).2 + (dest n e oa T h o - ho n e T h o)) % n)).1 = 0 ∧ (h (T (pos n e o)).2 + (dest n e oa T h o - ho n e T h o)) % n = pos n e (dest n e oa T h o) := by
  have hd := dest_le n e oa T h o
  have hh := ho_le_dest n e oa T h o hv ho1 hon hT
  have hpo : pos n e (ho n e T h o) = h (T (pos n e o)).2 := pos_off n e _ he (hhl _)
  have e1 : (h (T (pos n e o)).2 + (dest n e oa T h o - ho n e T h o)) % n = pos n e (dest n e oa T h o) := by
    rw [← hpo, pos_add]
    congr 1
    omega
  refine ⟨?_, e1⟩
  rw [e1, hi _ (by omega), if_pos]
  unfold dest
  split
  · exact .inr (.inr rfl)
  · exact .inl (Nat.le_refl _)

theorem inv_put (o : Nat) (M : Nat → Int × Int) (hoa : oa < n) (hTa : (T (pos n e oa)).1 ≠ 0) (he : e < n) (hi : InvM n e oa T h o M) (hon : o < n) (hne : o ≠ oa) (hT : (T (pos n e o)).1 ≠ 0) :
    InvM n e oa T h (o + 1) (upd M (pos n e (dest n e oa T h o)) (T (pos n e o))) := fun k hk => by
  have hd := dest_le n e oa T h o
  by_cases hc : (st n e oa T h o).1 < o ∧ ho n e T h o ≤ (st n e oa T h o).1
  · have e1 : st n e oa T h (o + 1) = (o, upd (st n e oa T h o).2 (pos n e (st n e oa T h o).1) (T (pos n e o))) := by rw [st, if_neg hne, if_pos ⟨hT, hc⟩]
    have ed : dest n e oa T h o = (st n e oa T h o).1 := by rw [dest, if_pos hc]
    have hlt : oa < o := by
      rcases Nat.lt_or_ge oa o with h2 | h2
      · exact h2
      · rw [st_low n e oa T h o h2 hoa] at hc
        have := hc.1
        simp only at this
        omega
    obtain ⟨_, j2, j3⟩ := st_hole n e oa T h o hlt hTa
    rw [e1, ed]
    by_cases hk1 : k = (st n e oa T h o).1
    · rw [← hk1, upd, if_pos rfl, if_neg]
      · show _ = upd _ _ _ _
        rw [upd, if_pos rfl]
      · simp only [not_or]
        exact ⟨by omega, by rw [hk1]; exact j3, by omega⟩
    · have hnp : pos n e k ≠ pos n e (st n e oa T h o).1 := fun eq => hk1 (pos_inj he hk (by omega) eq)
      rw [upd, if_neg hnp, hi k hk]
      by_cases hk2 : k = o
      · subst hk2
        rw [if_pos (.inl (Nat.le_refl _)), if_pos (.inr (.inr rfl))]
      · by_cases hq : o ≤ k ∨ (T (pos n e k)).1 = 0
        · rw [if_pos (by rcases hq with hq | hq; exact .inl hq; exact .inr (.inl hq)), if_pos (by rcases hq with hq | hq; exact .inl (by omega); exact .inr (.inl hq))]
        · simp only [not_or] at hq
          rw [if_neg (by simp only [not_or]; exact ⟨hq.1, hq.2, hk1⟩), if_neg (by simp only [not_or]; exact ⟨by omega, hq.2, hk2⟩)]
          show _ = upd _ _ _ _
          rw [upd, if_neg hnp]
  · have e1 : st n e oa T h (o + 1) = st n e oa T h o := by rw [st, if_neg hne, if_neg (fun hq => hc hq.2)]
    have ed : dest n e oa T h o = o := by rw [dest, if_neg hc]
    rw [e1, ed]
    by_cases hk1 : k = o
    · subst hk1
      rw [upd, if_pos rfl, if_neg]
      · exact (st_same n e oa T h k he hoa hTa (by omega) k hk (.inl (Nat.le_refl _))).symm
      · simp only [not_or]
        refine ⟨by omega, hT, fun eq => ?_⟩
        rcases Nat.lt_or_ge oa k with h2 | h2
        · have := (st_hole n e oa T h k h2 hTa).2.1
          omega
        · rw [st_low n e oa T h k h2 hoa] at eq
          simp only at eq
          omega
    · have hnp : pos n e k ≠ pos n e o := fun eq => hk1 (pos_inj he hk hon eq)
      rw [upd, if_neg hnp, hi k hk]
      exact ite_iff (show (o ≤ k ∨ (T (pos n e k)).1 = 0 ∨ k = (st n e oa T h o).1) ↔ (o + 1 ≤ k ∨ (T (pos n e k)).1 = 0 ∨ k = (st n e oa T h o).1) from or_congr_left (by omega)) _ _

/-- The test by which remove moves a slot into the hole. -/
theorem cond_iff (o hl hoo : Nat) (he : e < n) (h1 : hl < o) (h2 : o < n) (h3 : hoo ≤ o) :
    ((pos n e hl < pos n e o ∧ (pos n e hoo ≤ pos n e hl ∨ pos n e o < pos n e hoo)) ∨ (pos n e o < pos n e hl ∧ pos n e hoo ≤ pos n e hl ∧ pos n e o < pos n e hoo)) ↔ hoo ≤ hl := by
  rw [pos_eq n e hl he (by omega), pos_eq n e o he h2, pos_eq n e hoo he (by omega)]
  split <;> split <;> split <;> omega

/-- Behind an empty slot nothing moves any more. -/
theorem st_stop (o : Nat) (hoa : oa < o) (hTa : (T (pos n e oa)).1 ≠ 0) (hv : Valid n e T h) (hz : o = n ∨ (o < n ∧ (T (pos n e o)).1 = 0)) : ∀ d, o + d ≤ n → st n e oa T h (o + d) = st n e oa T h o := by
  intro d
  induction d with
  | zero => intro _; rfl
  | succ d ih =>
    intro hd
    have hz' : o < n ∧ (T (pos n e o)).1 = 0 := by rcases hz with hz | hz; omega; exact hz
    have i := ih (by omega)
    rw [show o + (d + 1) = (o + d) + 1 from rfl, st, if_neg (by omega), if_neg, i]
    rintro ⟨c1, _, c3⟩
    rw [i] at c3
    have := (st_hole n e oa T h o hoa hTa).2.1
    exact (hv (o + d) (by omega) (by omega) c1).2 o (by omega) (by omega) hz'.2

/-- What remove leaves against what the puts leave. -/
theorem final (M R : Nat → Int × Int) (he : e < n) (hoa : oa < n) (hTa : (T (pos n e oa)).1 ≠ 0) (hv : Valid n e T h) (hi : InvM n e oa T h n M) (o : Nat) (ho1 : oa < o) (hz : o = n ∨ (o < n ∧ (T (pos n e o)).1 = 0))
    (hR : R = upd (st n e oa T h o).2 (pos n e (st n e oa T h o).1) (0, 0)) (i : Nat) (hin : i < n) :
    (R i).1 = (M i).1 ∧ (R i).2 = if (M i).1 ≠ 0 then (M i).2 else if (T i).1 = 0 then (T i).2 else 0 := by
  have hs : st n e oa T h n = st n e oa T h o := by
    have hon : o ≤ n := by rcases hz with hz | hz <;> omega
    have := st_stop n e oa T h o ho1 hTa hv hz (n - o) (by omega)
    rwa [show o + (n - o) = n by omega] at this
  rw [← hs] at hR
  obtain ⟨j1, j2, j3⟩ := st_hole n e oa T h n hoa hTa
  rw [hR, ← pos_off n e i he hin]
  have hk := off_lt n e i he
  generalize off n e i = k at hk ⊢
  rw [hi k hk]
  by_cases hkh : k = (st n e oa T h n).1
  · rw [if_pos (.inr (.inr hkh)), ← hkh, upd, if_pos rfl]
    rw [← hkh] at j3
    simp [j3]
  · have hnp : pos n e k ≠ pos n e (st n e oa T h n).1 := fun eq => hkh (pos_inj he hk j2 eq)
    rw [upd, if_neg hnp]
    by_cases hTk : (T (pos n e k)).1 = 0
    · rw [if_pos (.inr (.inl hTk)), st_same n e oa T h n he hoa hTa (Nat.le_refl _) k hk (.inr hTk)]
      simp [hTk]
    · have hf := st_full n e oa T h n k hk hTk
      rw [if_neg (by simp only [not_or]; exact ⟨by omega, hTk, hkh⟩)]
      simp [hf]
end
end Go.Proofs.Qxb6604790a
