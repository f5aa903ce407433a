/-
  The functions that only scan a row of uint32: zzl1FirstEmpty, zzl1Count, zzl1Same; and zzBytes, zzl1Pow2, zzl1ShiftFor.
-/
import Derived.Test.Qxb6604790aProg
import Derived.WalkKit
import Derived.Below
import Derived.Deep.QuietTactic
import Derived.BigQuiet
namespace Go.Proofs.Qxb6604790a
open Go.RowKit

theorem ret_int {k : IntKind} {a b : Int} (h : a = b) : Ending.returned (.int k a) = .returned (.int k b) := by rw [h]

theorem all_succ {P : Nat → Prop} {k : Nat} (h : ∀ j, j < k → P j) (hk : P k) : ∀ j, j < k + 1 → P j := fun j hj => by
  rcases Nat.lt_succ_iff_lt_or_eq.1 hj with h1 | rfl
  · exact h j h1
  · exact hk

/-- The first empty place of a row. -/
def First (A : Nat → Int) (n k : Nat) : Prop := k < n ∧ A k = 0 ∧ ∀ i, i < k → A i ≠ 0

set_option maxHeartbeats 400000 in
theorem firstEmpty_any (b n c : Nat) (A : Nat → Int) (w : World) (hn : n ≤ 1048576) (hc : ∀ i, i < n → w.cell? ⟨b, i, none⟩ = some (.int .u32 (A i))) :
    Calls Try.prog 11 #[.slice (some ⟨b, 0, none⟩) n c] w fun e w' => w' = w ∧ ((e = .returned (.int .i64 (-1)) ∧ ∀ i, i < n → A i ≠ 0) ∨ ∃ k : Nat, e = .returned (.int .i64 k) ∧ First A n k) := by
  go_enter Try.func11, Try.ntmps11
  go_wp2
  go_loop [3] (fun i => ∃ k : Nat, k ≤ n ∧ i = .int .i64 k ∧ ∀ j, j < k → A j ≠ 0) (fun i => n - (intOf i).toNat)
  case atStart => exact ⟨0, Nat.zero_le _, rfl, fun j hj => absurd hj (Nat.not_lt_zero _)⟩
  case round =>
    obtain ⟨k, hk, rfl, hall⟩ := hrel
    by_cases hlt : k < n
    · have hck := hc k hlt
      have HC : Hid (∀ i, i < n → w.cell? ⟨b, i, none⟩ = some (.int .u32 (A i))) := hc
      clear hc
      by_cases hz : A k = 0
      · have HZ : Hid (A k = 0) := hz
        rw [hz] at hck
        clear hz
        go_wp2
        go_ret
        exact ⟨rfl, .inr ⟨k, rfl, hlt, HZ.out, hall⟩⟩
      · have hzb : (A k == 0) = false := by simpa using hz
        go_wp2
        go_round
        case rel => exact ⟨k + 1, by omega, by go_num, all_succ hall hz⟩
        case measure => simp [intOf]; omega
    · go_wp2
      go_ret
      exact ⟨rfl, .inl ⟨rfl, fun i hi => hall i (by omega)⟩⟩

set_option maxHeartbeats 400000 in
theorem count_any (b n c : Nat) (A : Nat → Int) (w : World) (hn : n ≤ 1048576) (hc : ∀ i, i < n → w.cell? ⟨b, i, none⟩ = some (.int .u32 (A i))) :
    Calls Try.prog 23 #[.slice (some ⟨b, 0, none⟩) n c] w fun e w' => w' = w ∧ ∃ m : Nat, e = .returned (.int .i64 m) ∧ m ≤ n ∧ ((∀ i, i < n → A i ≠ 0) → m = n) := by
  go_enter Try.func23, Try.ntmps23
  go_wp2
  go_loop [3, 4] (fun t i => ∃ k m : Nat, k ≤ n ∧ i = .int .i64 k ∧ t = .int .i64 m ∧ m ≤ k ∧ ((∀ j, j < k → A j ≠ 0) → m = k)) (fun _ i => n - (intOf i).toNat)
  case atStart => exact ⟨0, 0, Nat.zero_le _, rfl, rfl, Nat.le_refl _, fun _ => rfl⟩
  case round =>
    obtain ⟨k, m, hk, rfl, rfl, hm, hall⟩ := hrel
    by_cases hlt : k < n
    · have hck := hc k hlt
      clear hc
      by_cases hz : A k = 0
      · have HZ : Hid (A k = 0) := hz
        rw [hz] at hck
        clear hz
        have HA : Hid ((∀ j, j < k → A j ≠ 0) → m = k) := hall
        clear hall
        go_wp2
        go_round
        case rel => exact ⟨k + 1, m, by omega, by go_num, rfl, by omega, fun h => absurd HZ.out (h k (by omega))⟩
        case measure => simp [intOf]; omega
      · have hzb : (A k == 0) = false := by simpa using hz
        have HA : Hid ((∀ j, j < k → A j ≠ 0) → m = k) := hall
        clear hall
        go_wp2
        go_round
        case rel => exact ⟨k + 1, m + 1, by omega, by go_num, by go_num, by omega, fun h => by rw [HA.out fun j hj => h j (by omega)]⟩
        case measure => simp [intOf]; omega
    · have HA : Hid ((∀ j, j < k → A j ≠ 0) → m = k) := hall
      clear hall
      go_wp2
      go_ret
      exact ⟨rfl, m, rfl, by omega, fun h => by rw [HA.out fun j hj => h j (by omega)]; omega⟩

theorem bytes_ok (a0 a1 : Option Addr) (n0 c0 n1 c1 : Nat) (a2 a3 a4 a5 a6 : Int) (w : World) (h : n0 + n1 ≤ 1048576) :
    Calls Try.prog 8 #[.slice a0 n0 c0, .slice a1 n1 c1, .int .i64 a2, .int .u64 a3, .int .u64 a4, .int .i64 a5, .int .i64 a6] w fun e w' => e = .returned (.bool true) ∧ w' = w := by
  have h1 : (n0 : Int) + (n1 : Int) ≤ 1048576 := by omega
  go_enter Try.func8, Try.ntmps8
  go_wp2
  go_ret
  exact ⟨rfl, rfl⟩
theorem bytes_no (a0 a1 : Option Addr) (n0 c0 n1 c1 : Nat) (a2 a3 a4 a5 a6 : Int) (w : World) (h0 : n0 ≤ maxLen) (h1 : n1 ≤ maxLen) (h : ¬ n0 + n1 ≤ 1048576) :
    Calls Try.prog 8 #[.slice a0 n0 c0, .slice a1 n1 c1, .int .i64 a2, .int .u64 a3, .int .u64 a4, .int .i64 a5, .int .i64 a6] w fun e w' => e = .returned (.bool false) ∧ w' = w := by
  unfold maxLen at h0 h1
  go_enter Try.func8, Try.ntmps8
  go_wp2
  all_goals first
    | (go_ret; exact ⟨rfl, rfl⟩)
    | (exfalso; omega)

theorem i64_mask (x : Int) (n p : Nat) (hn : n = 2 ^ p) (hp : p ≤ 16) : bits .and .i64 x ((n : Int) - 1) = x % (n : Int) := by
  have hpos : 0 < n := by rw [hn]; exact Nat.two_pow_pos p
  have hle : n ≤ 65536 := by rw [hn]; exact Nat.pow_le_pow_right (by omega) hp
  have hm : (BitVec.ofInt 64 ((n : Int) - 1)).toNat = 2 ^ p - 1 := by
    rw [show (n : Int) - 1 = ((n - 1 : Nat) : Int) by omega, BitVec.ofInt_natCast, BitVec.toNat_ofNat, ← hn]
    exact Nat.mod_eq_of_lt (by omega)
  have hdvd : (n : Int) ∣ ((2 ^ 64 : Nat) : Int) := by
    rw [hn]
    exact Int.natCast_dvd_natCast.2 (Nat.pow_dvd_pow 2 (by omega))
  have key : (BitVec.ofInt 64 x &&& BitVec.ofInt 64 ((n : Int) - 1)).toNat = (x % ((2 ^ 64 : Nat) : Int)).toNat % n := by
    rw [BitVec.toNat_and, BitVec.toNat_ofInt, hm, Nat.and_two_pow_sub_one_eq_mod, ← hn]
  have h0 : 0 ≤ x % ((2 ^ 64 : Nat) : Int) := Int.emod_nonneg _ (by decide)
  have e : (((x % ((2 ^ 64 : Nat) : Int)).toNat % n : Nat) : Int) = x % (n : Int) := by
    rw [Int.natCast_emod, Int.toNat_of_nonneg h0, Int.emod_emod_of_dvd _ hdvd]
  show IntKind.i64.wrap ((BitVec.ofInt 64 x &&& BitVec.ofInt 64 ((n : Int) - 1)).toNat : Nat) = x % (n : Int)
  rw [key, e, IntKind.wrap_i64]
  have h1 := Int.emod_nonneg x (show (n : Int) ≠ 0 by omega)
  have h2 := Int.emod_lt_of_pos x (show (0 : Int) < n by omega)
  omega

theorem i64_and_nat (a b : Nat) (ha : a < 9223372036854775808) (hb : b < 9223372036854775808) : bits .and .i64 (a : Int) (b : Int) = ((a &&& b : Nat) : Int) := by
  have hx : a &&& b < 2 ^ 63 := Nat.and_lt_two_pow _ (by omega)
  show IntKind.i64.wrap ((BitVec.ofInt 64 (a : Int) &&& BitVec.ofInt 64 (b : Int)).toNat : Int) = _
  rw [BitVec.toNat_and, BitVec.ofInt_natCast, BitVec.ofInt_natCast, BitVec.toNat_ofNat, BitVec.toNat_ofNat, Nat.mod_eq_of_lt (by omega), Nat.mod_eq_of_lt (by omega), IntKind.wrap_i64]
  omega

/-- A power of two, at most 2^16. -/
def Pow (n p : Nat) : Prop := n = 2 ^ p ∧ p ≤ 16

theorem pow_of_and (n : Nat) (h : n ≤ 65536) (hn : 0 < n) (hb : bits .and .i64 (n : Int) ((n : Int) - 1) = 0) : ∃ p, Pow n p := by
  rw [show (n : Int) - 1 = ((n - 1 : Nat) : Int) by omega, i64_and_nat _ _ (by omega) (by omega)] at hb
  have h0 : n &&& n - 1 = 0 := by omega
  obtain ⟨p, hp⟩ := (Nat.and_sub_one_eq_zero_iff_isPowerOfTwo (by omega)).1 h0
  refine ⟨p, hp, ?_⟩
  rcases Nat.lt_or_ge 16 p with h1 | h1
  · have h2 : 2 ^ 17 ≤ 2 ^ p := Nat.pow_le_pow_right (by omega) h1
    have : (2 : Nat) ^ 17 = 131072 := by decide
    omega
  · exact h1

theorem pow2_any (n : Nat) (w : World) (h : n ≤ 65536) (hn : 0 < n) :
    Calls Try.prog 21 #[.int .i64 n] w fun e w' => w' = w ∧ ∃ β : Bool, e = .returned (.bool β) ∧ (β = true → ∃ p, Pow n p) := by
  have hn' : (0 : Int) < n := by omega
  go_enter Try.func21, Try.ntmps21
  go_wp2
  go_ret
  exact ⟨rfl, _, rfl, fun e => pow_of_and n h hn (by simpa using e)⟩
theorem pow2_zero (w : World) :
    Calls Try.prog 21 #[.int .i64 0] w fun e w' => w' = w ∧ e = .returned (.bool false) := by
  go_enter Try.func21, Try.ntmps21
  go_wp2
  go_ret
  exact ⟨rfl, rfl⟩

theorem half (p k : Nat) (h : 1 < 2 ^ (p - k)) : k < p ∧ 2 ^ (p - k) / 2 = 2 ^ (p - (k + 1)) := by
  have hk : k < p := by
    rcases Nat.lt_or_ge k p with h1 | h1
    · exact h1
    · rw [Nat.sub_eq_zero_of_le h1] at h
      simp at h
  refine ⟨hk, ?_⟩
  rw [show p - k = p - (k + 1) + 1 by omega, Nat.pow_succ]
  omega

set_option maxHeartbeats 400000 in
theorem shift_any (n p : Nat) (w : World) (hp : Pow n p) :
    Calls Try.prog 22 #[.int .i64 n] w fun e w' => e = .returned (.int .u64 (32 - (p : Int))) ∧ w' = w := by
  obtain ⟨hn, hp16⟩ := hp
  have hle : n ≤ 65536 := by rw [hn]; exact Nat.pow_le_pow_right (by omega) hp16
  have hpos : 0 < n := by rw [hn]; exact Nat.two_pow_pos p
  have HN : Hid (n = 2 ^ p) := hn
  clear hn
  go_enter Try.func22, Try.ntmps22
  go_wp2
  go_loop [3, 4] (fun s t => ∃ (k m : Nat), k ≤ p ∧ m ≤ 65536 ∧ Hid (m = 2 ^ (p - k)) ∧ s = .int .u64 (32 - (k : Int)) ∧ t = .int .i64 m) (fun _ t => (intOf t).toNat)
  case atStart => exact ⟨0, n, Nat.zero_le _, hle, HN, rfl, rfl⟩
  case round =>
    obtain ⟨k, m, hk, hm, HM, rfl, rfl⟩ := hrel
    by_cases hlt : 1 < m
    · have hh := half p k (by rw [← HM.out]; exact hlt)
      have hkp := hh.1
      have H2 : Hid (m / 2 = 2 ^ (p - (k + 1))) := by rw [HM.out]; exact hh.2
      clear hh
      go_wp2
      go_round
      case rel => exact ⟨k + 1, m / 2, by omega, by omega, H2, by go_num, by go_num⟩
      case measure => simp [intOf]; omega
    · have hkp : k = p := by
        rcases Nat.lt_or_ge k p with h1 | h1
        · have : 2 ^ 1 ≤ 2 ^ (p - k) := Nat.pow_le_pow_right (by omega) (by omega)
          have := HM.out
          omega
        · omega
      subst hkp
      go_wp2
      go_ret
      exact ⟨rfl, rfl⟩

set_option maxHeartbeats 400000 in
theorem same_yes (b b' n c c' : Nat) (A : Nat → Int) (w : World) (hn : n ≤ 1048576) (hc : ∀ i, i < n → w.cell? ⟨b, i, none⟩ = some (.int .u32 (A i))) (hd : ∀ i, i < n → w.cell? ⟨b', i, none⟩ = some (.int .u32 (A i))) :
    Calls Try.prog 18 #[.slice (some ⟨b, 0, none⟩) n c, .slice (some ⟨b', 0, none⟩) n c'] w fun e w' => e = .returned (.bool true) ∧ ∃ q, w' = w.drewN q := by
  go_enter Try.func18, Try.ntmps18
  go_wp2
  go_loopw [5] (fun i wr => ∃ k q : Nat, k ≤ n ∧ i = .int .i64 k ∧ wr = w.drewN q) (fun i _ => n - (intOf i).toNat)
  case atStart => exact ⟨0, 0, Nat.zero_le _, rfl, rfl⟩
  case round =>
    obtain ⟨k, q, hk, rfl, rfl⟩ := hrel
    by_cases hlt : k < n
    · have hck := hc k hlt
      have hdk := hd k hlt
      have h0 : (0 : Int) ≤ (k : Int) := by omega
      have h1 : (k : Int) < (n : Int) := by omega
      clear hc hd
      go_wp2
      go_quiet (fail)
      go_wp2
      go_roundw
      case rel => exact ⟨k + 1, _, by omega, by go_num, rfl⟩
      case measure => simp [intOf]; omega
    · go_wp2
      go_ret
      exact ⟨rfl, _, rfl⟩
end Go.Proofs.Qxb6604790a
