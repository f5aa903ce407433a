/-
  wholefile.ZZnamedInLink, and the law itself.
-/
import Derived.Test.Qxb6604726aDoorNamed
import Derived.Deep.QuietTactic
import Derived.BigQuiet
namespace Go.Proofs.Qxb6604726aDoor
open Go.RowKit

theorem eq42 (a : Addr) (w : World) : (binOp .eql 37 (.iface 42 (.pointer (some a))) (.iface 42 (.pointer (some a)))).run Tryd.prog w = .ok (.bool true) w := by
  have h42 : (Tryd.prog.info? 42).map (·.comparable) = some true := by kernel_rfl
  have h44 : (Tryd.prog.info? 44).isSome = true := by kernel_rfl
  obtain ⟨i, hi, hc⟩ := Option.map_eq_some_iff.1 h42
  obtain ⟨j, hj⟩ := Option.isSome_iff_exists.1 h44
  exact run_eql_iface_ptr_same w a Tryd.underlying37 Tryd.underlying42 hi hc hj

set_option maxHeartbeats 1000000 in
theorem in_link (p a b t : ByteArray) (w : World) (hpt : p = a ++ t) (hg : w.cell? ⟨0, 0, none⟩ = some (.iface 107 (.agg #[.pointer (some ⟨5, 37, none⟩)])))
    (ha : a.size + t.size ≤ 9223372036854775807) (hb : b.size + t.size ≤ 9223372036854775807) (h0 : 0 < t.size) (h47 : t[0].toNat = 47) :
    Calls Tryd.prog 10 #[.string p, .string a, .string b] w fun e w' => e = .returned (.tuple #[.bool true, .string (b ++ t), .string p]) ∧ Below w.heap.size w w' := by
  subst hpt
  have hlt : 0 < w.heap.size := by
    rcases Nat.eq_zero_or_pos w.heap.size with h0 | h
    · simp [World.cell?, h0] at hg
    · exact h
  have heq := eq42
  go_enter Tryd.func10, Tryd.ntmps10
  go_wp2_with fail
  refine (named_hit (w.heap.size + 1) w.heap.size a b t _ ?_ ?_ ?_ ?_ ha hb h0 h47).mono ?_
  · rw [World.cell?_alloc_lt _ _ ⟨0, 0, none⟩ (by simp), World.cell?_alloc_lt _ _ ⟨0, 0, none⟩ hlt]; exact hg
  · simp
  · simp
  · simp
  rintro e w1 ⟨rfl, hbel1, hp1, hf1, hl1⟩
  go_wp2_with fail
  refine (named_hit (w.heap.size + 1) w.heap.size b a t w1 ?_ hl1 hp1 hf1 hb ha h0 h47).mono ?_
  · rw [hbel1.cell (p := ⟨0, 0, none⟩) hlt, World.cell?_alloc_lt _ _ ⟨0, 0, none⟩ (by simp), World.cell?_alloc_lt _ _ ⟨0, 0, none⟩ hlt]; exact hg
  rintro e w2 ⟨rfl, hbel2, hp2, hf2, hl2⟩
  go_wp2
  go_quiet (fail)
  go_wp2
  go_ret3
  refine ⟨rfl, ?_⟩
  have hb12 := ((((Below.refl w.heap.size w).alloc (Nat.le_refl _) _).alloc (by simp) _).trans hbel1).trans hbel2
  exact ⟨hb12.os, hb12.tape, hb12.output, hb12.size, hb12.block⟩

theorem bytes_ok (x y z : ByteArray) (w : World) (h : x.size + y.size + z.size ≤ 1048576) :
    Calls Tryd.prog 9 #[.string x, .string y, .string z] w fun e w' => e = .returned (.bool true) ∧ w' = w := by
  have h1 : (x.size : Int) + (y.size : Int) + (z.size : Int) ≤ 1048576 := by omega
  go_enter Tryd.func9, Tryd.ntmps9
  go_wp2
  go_ret
  exact ⟨rfl, rfl⟩

set_option maxHeartbeats 1000000 in
theorem bytes_no (x y z : ByteArray) (w : World) (hx : x.size ≤ 9223372036854775807) (hy : y.size ≤ 9223372036854775807) (hz : z.size ≤ 9223372036854775807) (h : ¬ x.size + y.size + z.size ≤ 1048576) :
    Calls Tryd.prog 9 #[.string x, .string y, .string z] w fun e w' => e = .returned (.bool false) ∧ w' = w := by
  go_enter Tryd.func9, Tryd.ntmps9
  go_wp2
  all_goals first
    | (go_ret; exact ⟨rfl, rfl⟩)
    | (exfalso; omega)

theorem slash_head (r : ByteArray) : ∃ h : 0 < (ByteArray.mk #[47] ++ r).size, (ByteArray.mk #[47] ++ r)[0].toNat = 47 := by
  have h : 0 < (ByteArray.mk #[47] ++ r).size := by rw [ByteArray.size_append]; show 0 < 1 + r.size; omega
  refine ⟨h, ?_⟩
  rw [ByteArray.getElem_append_left (by decide)]
  rfl

set_option maxHeartbeats 1000000 in
theorem law (a r b : ByteArray) (w : World) (ha : a.size ≤ 9223372036854775807) (hr : r.size ≤ 9223372036854775807) (hb : b.size ≤ 9223372036854775807)
    (hg : w.cell? ⟨0, 0, none⟩ = some (.iface 107 (.agg #[.pointer (some ⟨5, 37, none⟩)]))) :
    Calls Tryd.prog 4 #[.string a, .string r, .string b] w fun e w' => e = .returned (.bool true) ∧ Below w.heap.size w w' := by
  by_cases hsz : a.size + r.size + b.size ≤ 1048576
  · have hsl : (ByteArray.mk #[47]).size = 1 := rfl
    have ht : (ByteArray.mk #[47] ++ r).size = 1 + r.size := by rw [ByteArray.size_append, hsl]
    obtain ⟨h0, h47⟩ := slash_head r
    have c := in_link (a ++ ByteArray.mk #[47] ++ r) a b (ByteArray.mk #[47] ++ r) w ByteArray.append_assoc hg (by omega) (by omega) h0 h47
    rw [← ByteArray.append_assoc] at c
    have hsz' : (a.size : Int) + (r.size : Int) + (b.size : Int) ≤ 1048576 := by omega
    clear ht h0 h47
    go_enter Tryd.func4, Tryd.ntmps4
    go_wp2_with fail
    refine (bytes_ok a r b w hsz).mono ?_
    rintro e w1 ⟨rfl, rfl⟩
    go_wp2_with fail
    refine c.mono ?_
    rintro e w2 ⟨rfl, hbel⟩
    go_wp2
    go_ret
    exact ⟨rfl, hbel⟩
  · go_enter Tryd.func4, Tryd.ntmps4
    go_wp2_with fail
    refine (bytes_no a r b w ha hr hb hsz).mono ?_
    rintro e w1 ⟨rfl, rfl⟩
    go_wp2
    go_ret
    exact ⟨rfl, Below.refl _ _⟩
end Go.Proofs.Qxb6604726aDoor
