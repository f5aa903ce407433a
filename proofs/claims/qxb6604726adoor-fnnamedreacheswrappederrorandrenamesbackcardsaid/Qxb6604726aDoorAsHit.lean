/-
  errors.As(le, &pathErr), le an *os.LinkError whose Err is an *fs.PathError: true; the target is set to the inner error.
-/
import Derived.Test.Qxb6604726aDoorAs
namespace Go.Proofs.Qxb6604726aDoor
open Go.RowKit Go.Extern.Stop Go.Stop Go.Extern

set_option maxHeartbeats 4000000 in
theorem as_hit (bl : Nat) (e t : Addr) (old : Value) (w : World) (hg : w.cell? ⟨0, 0, none⟩ = some (.iface 107 (.agg #[.pointer (some ⟨5, 37, none⟩)])))
    (hl0 : w.cell? ⟨bl, 3, none⟩ = some (.iface 35 (.pointer (some e)))) (ht0 : w.cell? t = some old) (hf0 : w.frozen? t = false) :
    Calls Tryd.prog 18 #[.iface 42 (.pointer (some ⟨bl, 0, none⟩)), .iface 49 (.pointer (some t))] w fun ev w' => ev = .returned (.bool true) ∧ w' = ((((w.alloc (.cells #[.pointer (some t)] 49)).alloc (.cells #[.pointer (some ⟨5, 49, none⟩), .pointer (some ⟨w.heap.size, 0, none⟩), .int .u64 150] 58)).alloc (.cells #[.pointer (some ⟨5, 49, none⟩), .pointer (some ⟨w.heap.size, 0, none⟩), .int .u64 150] 58)).alloc (.cells #[.pointer (some e)] 35)).setCell t (.pointer (some e)) := by
  have h6 := @run_callFunc_extern Tryd.prog 24 _ (fun args => ReflectliteValue.unpack (args.getD 0 (.tuple #[]))) Tryd.func24 (by kernel_rfl) (by kernel_rfl) (by kernel_rfl) (by kernel_rfl)
  have h7 := @run_callFunc_extern Tryd.prog 25 _ (ReflectliteValue.methodAny (ReflectliteValue.valueError "reflectlite.Value.Type" 0) (fun t _ _ _ => ReflectliteType.toType t)) Tryd.func25 (by kernel_rfl) (by kernel_rfl) (by kernel_rfl) (by kernel_rfl)
  have h8 := @run_callFunc_extern Tryd.prog 26 _ (ReflectliteValue.method (ReflectliteValue.valueError "reflectlite.Value.IsNil" 0) ReflectliteValue.isNil) Tryd.func26 (by kernel_rfl) (by kernel_rfl) (by kernel_rfl) (by kernel_rfl)
  have h27 := @run_callFunc_extern Tryd.prog 63 _ (ReflectliteType.abiMethod fun t => do pure (.int .u8 (← Rtype.kind t))) Tryd.func63 (by kernel_rfl) (by kernel_rfl) (by kernel_rfl) (by kernel_rfl)
  have h37 := @run_callFunc_extern Tryd.prog 78 _ (ReflectliteType.method ReflectliteType.elem) Tryd.func78 (by kernel_rfl) (by kernel_rfl) (by kernel_rfl) (by kernel_rfl)
  have h38 := @run_callFunc_extern Tryd.prog 79 _ (ReflectliteType.relation "Implements" ReflectliteType.implements_) Tryd.func79 (by kernel_rfl) (by kernel_rfl) (by kernel_rfl) (by kernel_rfl)
  have h10 := @run_callFunc_extern Tryd.prog 36 _ ReflectliteType.typeOf Tryd.func36 (by kernel_rfl) (by kernel_rfl) (by kernel_rfl) (by kernel_rfl)
  have h35 := @run_callFunc_extern Tryd.prog 76 _ (ReflectliteType.relation "AssignableTo" ReflectliteType.assignableTo) Tryd.func76 (by kernel_rfl) (by kernel_rfl) (by kernel_rfl) (by kernel_rfl)
  have h11 := @run_callFunc_extern Tryd.prog 37 _ (ReflectliteValue.method (ReflectliteValue.valueError "reflectlite.Value.Elem" 0) ReflectliteValue.elem) Tryd.func37 (by kernel_rfl) (by kernel_rfl) (by kernel_rfl) (by kernel_rfl)
  have h12 := @run_callFunc_extern Tryd.prog 38 _ ReflectliteValue.set Tryd.func38 (by kernel_rfl) (by kernel_rfl) (by kernel_rfl) (by kernel_rfl)
  have tO := typeOf35
  have tO2 := typeOf42
  have mA := methodAssignableTo
  have mU := methodUnwrap
  have a35 := assignable35
  have a42 := assignable42
  have nA := noAs42
  have uW := unwrap42
  have v35 := valueOf35
  have f6 := valueOf49
  have f7 := type49
  have mK := methodKind
  have mE := methodElem
  have mI := methodImplements
  have k49 := kind49
  have k35 := kind35
  have e49 := elem49
  have i35 := implements35
  have n8 := isNil49 ⟨w.heap.size, 0, none⟩ t ((w.alloc (.cells #[.pointer (some t)] 49)).alloc (.cells #[.pointer (some ⟨5, 49, none⟩), .pointer (some ⟨w.heap.size, 0, none⟩), .int .u64 150] 58)) (by simp)
  have hlt : 0 < w.heap.size := by
    rcases Nat.eq_zero_or_pos w.heap.size with h0 | h
    · simp [World.cell?, h0] at hg
    · exact h
  have hbl : bl < w.heap.size := by
    rcases Nat.lt_or_ge bl w.heap.size with h | h
    · exact h
    · simp [World.cell?, Array.getElem?_eq_none h] at hl0
  have hg2 : ((w.alloc (.cells #[.pointer (some t)] 49)).alloc (.cells #[.pointer (some ⟨5, 49, none⟩), .pointer (some ⟨w.heap.size, 0, none⟩), .int .u64 150] 58)).cell? ⟨0, 0, none⟩ = some (.iface 107 (.agg #[.pointer (some ⟨5, 37, none⟩)])) := by
    rw [World.cell?_alloc_lt _ _ ⟨0, 0, none⟩ (by simp), World.cell?_alloc_lt _ _ ⟨0, 0, none⟩ hlt]; exact hg
  have hl2 : (((w.alloc (.cells #[.pointer (some t)] 49)).alloc (.cells #[.pointer (some ⟨5, 49, none⟩), .pointer (some ⟨w.heap.size, 0, none⟩), .int .u64 150] 58)).alloc (.cells #[.pointer (some ⟨5, 49, none⟩), .pointer (some ⟨w.heap.size, 0, none⟩), .int .u64 150] 58)).cell? ⟨bl, 3, none⟩ = some (.iface 35 (.pointer (some e))) := by
    rw [World.cell?_alloc_lt _ _ ⟨bl, 3, none⟩ (by simp; omega), World.cell?_alloc_lt _ _ ⟨bl, 3, none⟩ (by simp; omega), World.cell?_alloc_lt _ _ ⟨bl, 3, none⟩ hbl]; exact hl0
  have htl : t.block < w.heap.size := by
    rcases Nat.lt_or_ge t.block w.heap.size with h | h
    · exact h
    · simp [World.cell?, Array.getElem?_eq_none h] at ht0
  have el := elemV49 ⟨w.heap.size, 0, none⟩ t (((w.alloc (.cells #[.pointer (some t)] 49)).alloc (.cells #[.pointer (some ⟨5, 49, none⟩), .pointer (some ⟨w.heap.size, 0, none⟩), .int .u64 150] 58)).alloc (.cells #[.pointer (some ⟨5, 49, none⟩), .pointer (some ⟨w.heap.size, 0, none⟩), .int .u64 150] 58)) (by rw [World.cell?_alloc_lt _ _ ⟨w.heap.size, 0, none⟩ (by simp; omega)]; simp)
  have st := set35 t ⟨w.heap.size + 1 + 1 + 1, 0, none⟩ e old ((((w.alloc (.cells #[.pointer (some t)] 49)).alloc (.cells #[.pointer (some ⟨5, 49, none⟩), .pointer (some ⟨w.heap.size, 0, none⟩), .int .u64 150] 58)).alloc (.cells #[.pointer (some ⟨5, 49, none⟩), .pointer (some ⟨w.heap.size, 0, none⟩), .int .u64 150] 58)).alloc (.cells #[.pointer (some e)] 35))
    (by rw [World.cell?_alloc_at _ _ _ _ (by simp)]; rfl)
    (by rw [World.cell?_alloc_lt _ _ t (by simp; omega), World.cell?_alloc_lt _ _ t (by simp; omega), World.cell?_alloc_lt _ _ t (by simp; omega), World.cell?_alloc_lt _ _ t htl]; exact ht0)
    (by rw [World.frozen?_alloc_old _ _ t (by simp; omega), World.frozen?_alloc_old _ _ t (by simp; omega), World.frozen?_alloc_old _ _ t (by simp; omega), World.frozen?_alloc_old _ _ t (Nat.ne_of_lt htl)]; exact hf0)
  go_enter Tryd.func18, Tryd.ntmps18
  go_wp2
  refine wp_loop_rounds 2 ?_
  rw [rounds_succ]
  go_wp2
  rw [rounds_succ]
  go_wp2
  go_ret
  exact ⟨rfl, rfl⟩
end Go.Proofs.Qxb6604726aDoor
