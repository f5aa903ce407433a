/-
  wholefile.named, at an *os.LinkError that wraps an *fs.PathError whose Path is a ++ t, t beginning with a separator.
-/
import Derived.Test.Qxb6604726aDoorAsHit
import Derived.Below
namespace Go.Proofs.Qxb6604726aDoor
open Go.RowKit

theorem extract_left (a t : ByteArray) : (a ++ t).extract 0 a.size = a := ByteArray.extract_append_eq_left rfl
theorem extract_right (a t : ByteArray) : (a ++ t).extract a.size (a ++ t).size = t := ByteArray.extract_append_eq_right rfl ByteArray.size_append

set_option maxHeartbeats 400000 in
theorem cut_hit (a t : ByteArray) (w : World) (hs : a.size + t.size ≤ 9223372036854775807) :
    Calls Tryd.prog 19 #[.string (a ++ t), .string a] w fun e w' => e = .returned (.tuple #[.string t, .bool true]) ∧ w' = w := by
  have h1 := extract_left a t
  have h2 := extract_right a t
  have hsz : (a ++ t).size = a.size + t.size := ByteArray.size_append
  have hle : a.size ≤ (a ++ t).size := by omega
  have hmax : (a ++ t).size ≤ 9223372036854775807 := by omega
  clear hsz hs
  generalize a ++ t = s at *
  have h3 : ((s.extract 0 a.size).toList == a.toList) = true := by rw [h1]; simp
  have hle' : (a.size : Int) ≤ (s.size : Int) := by omega
  clear h1
  go_enter Tryd.func19, Tryd.ntmps19
  go_wp2
  go_ret2
  exact ⟨rfl, rfl⟩

/-- errors.As, in words that a caller carries on: the target is set, whatever else lay there lies on. -/
theorem as_hit' (bl : Nat) (e : Addr) (b : Nat) (old : Value) (w : World) (hg : w.cell? ⟨0, 0, none⟩ = some (.iface 107 (.agg #[.pointer (some ⟨5, 37, none⟩)])))
    (hl0 : w.cell? ⟨bl, 3, none⟩ = some (.iface 35 (.pointer (some e)))) (ht0 : w.cell? ⟨b, 0, none⟩ = some old) (hf0 : w.frozen? ⟨b, 0, none⟩ = false) :
    Calls Tryd.prog 18 #[.iface 42 (.pointer (some ⟨bl, 0, none⟩)), .iface 49 (.pointer (some ⟨b, 0, none⟩))] w fun ev w' => ev = .returned (.bool true) ∧ Below b w w' ∧ w'.cell? ⟨b, 0, none⟩ = some (.pointer (some e)) := by
  have hb : b < w.heap.size := by
    rcases Nat.lt_or_ge b w.heap.size with h | h
    · exact h
    · simp [World.cell?, Array.getElem?_eq_none h] at ht0
  refine (as_hit bl e ⟨b, 0, none⟩ old w hg hl0 ht0 hf0).mono ?_
  rintro ev w' ⟨rfl, rfl⟩
  refine ⟨rfl, ?_, ?_⟩
  · exact (((((Below.refl b w).alloc (by omega) _).alloc (by simp; omega) _).alloc (by simp; omega) _).alloc (by simp; omega) _).setCell (by simp) _
  · refine World.cell?_setCell_same _ _ _ (u := old) ?_
    rw [World.cell?_alloc_lt _ _ ⟨b, 0, none⟩ (by simp; omega), World.cell?_alloc_lt _ _ ⟨b, 0, none⟩ (by simp; omega), World.cell?_alloc_lt _ _ ⟨b, 0, none⟩ (by simp; omega), World.cell?_alloc_lt _ _ ⟨b, 0, none⟩ hb]
    exact ht0

theorem sep_hit (w : World) : Calls Tryd.prog 20 #[.int .u8 47] w fun e w' => e = .returned (.bool true) ∧ w' = w := by
  go_enter Tryd.func20, Tryd.ntmps20
  go_wp2
  go_ret
  exact ⟨rfl, rfl⟩

set_option maxHeartbeats 1000000 in
theorem named_hit (bl bp : Nat) (a b t : ByteArray) (w : World) (hg : w.cell? ⟨0, 0, none⟩ = some (.iface 107 (.agg #[.pointer (some ⟨5, 37, none⟩)])))
    (hl0 : w.cell? ⟨bl, 3, none⟩ = some (.iface 35 (.pointer (some ⟨bp, 0, none⟩))))
    (hp : w.cell? ⟨bp, 1, none⟩ = some (.string (a ++ t))) (hfz : w.frozen? ⟨bp, 1, none⟩ = false)
    (ha : a.size + t.size ≤ 9223372036854775807) (hb : b.size + t.size ≤ 9223372036854775807) (h0 : 0 < t.size) (h47 : t[0].toNat = 47) :
    Calls Tryd.prog 16 #[.iface 42 (.pointer (some ⟨bl, 0, none⟩)), .string a, .string b] w fun e w' => e = .returned (.iface 42 (.pointer (some ⟨bl, 0, none⟩))) ∧ Below bp w w'
      ∧ w'.cell? ⟨bp, 1, none⟩ = some (.string (b ++ t)) ∧ w'.frozen? ⟨bp, 1, none⟩ = false ∧ w'.cell? ⟨bl, 3, none⟩ = some (.iface 35 (.pointer (some ⟨bp, 0, none⟩))) := by
  have hnil : (t.toList == []) = false := by
    rw [beq_eq_false_iff_ne, ByteArray.toList_eq]
    intro e
    have : t.data.toList.length = 0 := by rw [e]; rfl
    have h1 : t.data.toList.length = t.size := by rw [Array.length_toList]; rfl
    omega
  have hlt : 0 < w.heap.size := by
    rcases Nat.eq_zero_or_pos w.heap.size with h0 | h
    · simp [World.cell?, h0] at hg
    · exact h
  have hbl : bl < w.heap.size := by
    rcases Nat.lt_or_ge bl w.heap.size with h | h
    · exact h
    · simp [World.cell?, Array.getElem?_eq_none h] at hl0
  have hbp : bp < w.heap.size := by
    rcases Nat.lt_or_ge bp w.heap.size with h | h
    · exact h
    · simp [World.cell?, Array.getElem?_eq_none h] at hp
  have c := as_hit' bl ⟨bp, 0, none⟩ w.heap.size (.pointer none) (w.alloc (.cells #[.pointer none] 35))
    (by rw [World.cell?_alloc_lt _ _ ⟨0, 0, none⟩ hlt]; exact hg) (by rw [World.cell?_alloc_lt _ _ ⟨bl, 3, none⟩ hbl]; exact hl0) (by simp) (by simp)
  go_enter Tryd.func16, Tryd.ntmps16
  go_wp2_with fail
  refine c.mono ?_
  rintro e w1 ⟨rfl, hbel, hc1⟩
  have hp1 : w1.cell? ⟨bp, 1, none⟩ = some (.string (a ++ t)) := by
    rw [hbel.cell (p := ⟨bp, 1, none⟩) hbp, World.cell?_alloc_lt _ _ ⟨bp, 1, none⟩ hbp]; exact hp
  have hf1 : w1.frozen? ⟨bp, 1, none⟩ = false := by
    rw [hbel.frozen (p := ⟨bp, 1, none⟩) hbp, World.frozen?_alloc_old _ _ ⟨bp, 1, none⟩ (Nat.ne_of_lt hbp)]; exact hfz
  go_wp2_with fail
  refine (cut_hit a t w1 ha).mono ?_
  rintro e w2 ⟨rfl, rfl⟩
  go_wp2_with fail
  refine (sep_hit w2).mono ?_
  rintro e w3 ⟨rfl, rfl⟩
  go_wp2
  go_ret
  refine ⟨rfl, ?_, ?_, ?_, ?_⟩
  · exact (((Below.refl bp w).alloc (by omega) _).trans (hbel.mono (by omega))).setCell (Nat.le_refl _) _
  · exact World.cell?_setCell_same _ _ _ hp1
  · rw [World.frozen?_setCell]; exact hf1
  · rw [World.cell?_setCell_other _ _ _ _ (by intro e; simp at e), hbel.cell (p := ⟨bl, 3, none⟩) hbl, World.cell?_alloc_lt _ _ ⟨bl, 3, none⟩ hbl]; exact hl0
end Go.Proofs.Qxb6604726aDoor
