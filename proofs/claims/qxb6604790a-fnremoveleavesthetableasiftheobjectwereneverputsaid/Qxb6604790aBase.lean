/-
  Rows of cells that a call makes: 'make' at this program's types; stores into them, cell by cell.
-/
import Derived.Test.Qxb6604790aProg
import Derived.WalkKit
import Derived.Below
import Derived.Laws.MakeOwn
import Derived.Lib.SliceRun
import Derived.Deep.QuietTactic
import Derived.BigQuiet
namespace Go.Proofs.Qxb6604790a
open Go.RowKit

/-- n zero cells of a row of uint32. -/
def zs1 (n : Nat) : Array Value := madeCells #[.int .u32 0] n
/-- n zero slots, two cells each. -/
def zs2 (n : Nat) : Array Value := madeCells #[.int .u32 0, .int .u32 0] (n * 2)

theorem zs1_get (n i : Nat) (h : i < n) : (zs1 n)[i]? = some (.int .u32 0) := by
  unfold zs1 madeCells
  rw [Array.getElem?_map, Array.getElem?_range, if_pos h]
  simp [Nat.mod_one]
theorem zs2_get (n i : Nat) (h : i < n * 2) : (zs2 n)[i]? = some (.int .u32 0) := by
  unfold zs2 madeCells
  rw [Array.getElem?_map, Array.getElem?_range, if_pos h]
  rcases Nat.mod_two_eq_zero_or_one i with e | e <;> simp [e]

theorem info40 : (Try.prog.info? 40).map (fun i => (i.zero, i.size, i.bytes)) = some (some (.int .u32 0), 1, 4) := by kernel_rfl
theorem info62 : (Try.prog.info? 62).map (fun i => (i.zero, i.size, i.bytes)) = some (some (.agg #[.int .u32 0, .int .u32 0]), 2, 8) := by kernel_rfl

theorem mk35 (n : Nat) (hn : n ≤ 1048576) (W : World) : (Instr.makeSlice 35 (.int .i64 n) (.int .i64 n)).run Try.prog W = .ok (.slice (some ⟨W.heap.size, 0, none⟩) n n) (W.alloc (.cells (zs1 n) 40)) := by
  obtain ⟨i, hi, hz, hs, hb⟩ := info_parts info40
  have h := run_make (P := Try.prog) W 35 40 i (.int .u32 0) Try.underlying35 hi hz .i64 .i64 n n (by omega) (Int.le_refl _) (by rw [hb]; omega) (by omega)
  rw [hs] at h
  simpa [zs1, Value.cells] using h
theorem mk63 (n : Nat) (hn : n ≤ 1048576) (W : World) : (Instr.makeSlice 63 (.int .i64 n) (.int .i64 n)).run Try.prog W = .ok (.slice (some ⟨W.heap.size, 0, none⟩) n n) (W.alloc (.cells (zs2 n) 62)) := by
  obtain ⟨i, hi, hz, hs, hb⟩ := info_parts info62
  have h := run_make (P := Try.prog) W 63 62 i (.agg #[.int .u32 0, .int .u32 0]) Try.underlying63 hi hz .i64 .i64 n n (by omega) (Int.le_refl _) (by rw [hb]; omega) (by omega)
  rw [hs] at h
  simpa [zs2, Value.cells] using h

theorem eq35 (a : Option Addr) (n c n' c' : Nat) (W : World) : (binOp .eql 35 (.slice a n c) (.slice none n' c')).run Try.prog W = .ok (.bool a.isNone) W := Lib.run_eql_slice_nil W 35 40 a n c n' c' Try.underlying35
theorem eq52 (a : Option Addr) (n c n' c' : Nat) (W : World) : (binOp .eql 52 (.slice a n c) (.slice none n' c')).run Try.prog W = .ok (.bool a.isNone) W := Lib.run_eql_slice_nil W 52 42 a n c n' c' Try.underlying52

/-- The cells 0 .. n - 1 of block b are there and may be written. -/
def Writ (w : World) (b n : Nat) : Prop := ∀ j, j < n → (∃ v, w.cell? ⟨b, j, none⟩ = some v) ∧ w.frozen? ⟨b, j, none⟩ = false
/-- The cells 0 .. n - 1 of block b are the uint32s A. -/
def Row (w : World) (b n : Nat) (A : Nat → Int) : Prop := ∀ j, j < n → w.cell? ⟨b, j, none⟩ = some (.int .u32 (A j))

theorem Writ.set {w : World} {b n : Nat} (h : Writ w b n) (p : Addr) (v : Value) : Writ (w.setCell p v) b n := fun j hj => by
  obtain ⟨⟨u, hu⟩, hf⟩ := h j hj
  refine ⟨?_, by rw [World.frozen?_setCell]; exact hf⟩
  by_cases e : p = ⟨b, j, none⟩
  · subst e; exact ⟨v, World.cell?_setCell_same _ _ _ hu⟩
  · exact ⟨u, by rw [World.cell?_setCell_other _ _ _ _ e]; exact hu⟩
theorem Row.set_far {w : World} {b n : Nat} {A : Nat → Int} (h : Row w b n A) (p : Addr) (v : Value) (hp : p.block ≠ b) : Row (w.setCell p v) b n A := fun j hj => by
  rw [World.cell?_setCell_other _ _ _ _ (by intro e; subst e; exact hp rfl)]; exact h j hj
theorem Row.snoc {w : World} {b k n : Nat} {A : Nat → Int} (h : Row w b k A) (hw : Writ w b n) (hk : k < n) : Row (w.setCell ⟨b, k, none⟩ (.int .u32 (A k))) b (k + 1) A := fun j hj => by
  by_cases e : j = k
  · subst e
    obtain ⟨⟨u, hu⟩, _⟩ := hw j hk
    exact World.cell?_setCell_same _ _ _ hu
  · rw [World.cell?_setCell_other _ _ _ _ (fun e' => e (congrArg Addr.off e').symm)]; exact h j (by omega)
theorem Writ.alloc1 (w : World) (n : Nat) (t : TypeId) : Writ (w.alloc (.cells (zs1 n) t)) w.heap.size n := fun j hj => by
  refine ⟨⟨.int .u32 0, ?_⟩, World.frozen?_alloc_new _ _ _ _⟩
  rw [World.cell?_alloc_new]; exact zs1_get n j hj
theorem Writ.alloc2 (w : World) (n : Nat) (t : TypeId) : Writ (w.alloc (.cells (zs2 n) t)) w.heap.size (n * 2) := fun j hj => by
  refine ⟨⟨.int .u32 0, ?_⟩, World.frozen?_alloc_new _ _ _ _⟩
  rw [World.cell?_alloc_new]; exact zs2_get n j hj

/-- Block b reads in w' as it did in w. -/
def Keeps (w w' : World) (b : Nat) : Prop := ∀ o, w'.cell? ⟨b, o, none⟩ = w.cell? ⟨b, o, none⟩ ∧ w'.frozen? ⟨b, o, none⟩ = w.frozen? ⟨b, o, none⟩
theorem Keeps.refl (w : World) (b : Nat) : Keeps w w b := fun _ => ⟨rfl, rfl⟩
theorem Keeps.trans {w w' w'' : World} {b : Nat} (h : Keeps w w' b) (k : Keeps w' w'' b) : Keeps w w'' b := fun o => ⟨(k o).1.trans (h o).1, (k o).2.trans (h o).2⟩
theorem Keeps.of_below {w w' : World} {B b : Nat} (h : Below B w w') (hb : b < B) : Keeps w w' b := fun o => ⟨h.cell (p := ⟨b, o, none⟩) hb, h.frozen (p := ⟨b, o, none⟩) hb⟩
theorem Keeps.alloc (w : World) (o : Obj) {b : Nat} (hb : b < w.heap.size) : Keeps w (w.alloc o) b := fun i => ⟨World.cell?_alloc_lt _ _ ⟨b, i, none⟩ hb, World.frozen?_alloc_old _ _ ⟨b, i, none⟩ (Nat.ne_of_lt hb)⟩
theorem Keeps.set (w : World) (p : Addr) (v : Value) {b : Nat} (hp : p.block ≠ b) : Keeps w (w.setCell p v) b := fun _ => ⟨World.cell?_setCell_other _ _ _ _ (fun e => hp (congrArg Addr.block e)), World.frozen?_setCell _ _ _ _⟩
theorem Keeps.drewN (w : World) (q b : Nat) : Keeps w (w.drewN q) b := fun _ => ⟨rfl, rfl⟩
theorem Keeps.drew (w : World) (b : Nat) : Keeps w w.drew b := fun _ => ⟨rfl, rfl⟩

theorem Row.keep {w w' : World} {b n : Nat} {A : Nat → Int} (h : Row w b n A) (k : Keeps w w' b) : Row w' b n A := fun j hj => (k j).1.trans (h j hj)
theorem Writ.keep {w w' : World} {b n : Nat} (h : Writ w b n) (k : Keeps w w' b) : Writ w' b n := fun j hj => by
  obtain ⟨⟨v, hv⟩, hf⟩ := h j hj
  exact ⟨⟨v, (k j).1.trans hv⟩, (k j).2.trans hf⟩

/-- A row of n slots at block b. -/
def Tab (w : World) (b n : Nat) (T : Nat → Int × Int) : Prop := ∀ i, i < n → w.cell? ⟨b, i * 2, none⟩ = some (.int .u32 (T i).1) ∧ w.cell? ⟨b, i * 2 + 1, none⟩ = some (.int .u32 (T i).2)
/-- A segment at block g, its slots in the row of block b. -/
def Seg (w : World) (g b n : Nat) (obj dep sh : Int) : Prop := w.cell? ⟨g, 0, none⟩ = some (.slice (some ⟨b, 0, none⟩) n n) ∧ w.cell? ⟨g, 1, none⟩ = some (.int .i64 obj) ∧ w.cell? ⟨g, 2, none⟩ = some (.int .u64 dep) ∧ w.cell? ⟨g, 3, none⟩ = some (.int .u64 sh)
theorem Tab.keep {w w' : World} {b n : Nat} {T : Nat → Int × Int} (h : Tab w b n T) (k : Keeps w w' b) : Tab w' b n T := fun j hj => ⟨(k _).1.trans (h j hj).1, (k _).1.trans (h j hj).2⟩
theorem Seg.keep {w w' : World} {g b n : Nat} {obj dep sh : Int} (h : Seg w g b n obj dep sh) (k : Keeps w w' g) : Seg w' g b n obj dep sh :=
  ⟨(k _).1.trans h.1, (k _).1.trans h.2.1, (k _).1.trans h.2.2.1, (k _).1.trans h.2.2.2⟩

theorem Seg.setObj {w : World} {g b n : Nat} {obj dep sh : Int} (h : Seg w g b n obj dep sh) (obj' : Int) : Seg (w.setCell ⟨g, 1, none⟩ (.int .i64 obj')) g b n obj' dep sh :=
  ⟨(World.cell?_setCell_other _ _ _ _ (fun e => absurd (congrArg Addr.off e) (by simp))).trans h.1, World.cell?_setCell_same _ _ _ h.2.1, (World.cell?_setCell_other _ _ _ _ (fun e => absurd (congrArg Addr.off e) (by simp))).trans h.2.2.1, (World.cell?_setCell_other _ _ _ _ (fun e => absurd (congrArg Addr.off e) (by simp))).trans h.2.2.2⟩
theorem Seg.setSh {w : World} {g b n : Nat} {obj dep sh : Int} (h : Seg w g b n obj dep sh) (sh' : Int) : Seg (w.setCell ⟨g, 3, none⟩ (.int .u64 sh')) g b n obj dep sh' :=
  ⟨(World.cell?_setCell_other _ _ _ _ (fun e => absurd (congrArg Addr.off e) (by simp))).trans h.1, (World.cell?_setCell_other _ _ _ _ (fun e => absurd (congrArg Addr.off e) (by simp))).trans h.2.1, (World.cell?_setCell_other _ _ _ _ (fun e => absurd (congrArg Addr.off e) (by simp))).trans h.2.2.1, World.cell?_setCell_same _ _ _ h.2.2.2⟩

/-- The table with the slot i turned to v. -/
def upd (T : Nat → Int × Int) (i : Nat) (v : Int × Int) : Nat → Int × Int := fun j => if j = i then v else T j
/-- The world with the slot i of the row b turned to v. -/
def put2 (w : World) (b i : Nat) (v : Int × Int) : World := (w.setCell ⟨b, i * 2, none⟩ (.int .u32 v.1)).setCell ⟨b, i * 2 + 1, none⟩ (.int .u32 v.2)
theorem put2_keeps (w : World) (b i : Nat) (v : Int × Int) {b' : Nat} (h : b ≠ b') : Keeps w (put2 w b i v) b' := (Keeps.set w _ _ h).trans (Keeps.set _ _ _ h)
theorem put2_writ {w : World} {b n : Nat} (h : Writ w b n) (b' i : Nat) (v : Int × Int) : Writ (put2 w b' i v) b n := (h.set _ _).set _ _
theorem put2_below {B : Nat} {a w : World} (h : Below B a w) {b : Nat} (hb : B ≤ b) (i : Nat) (v : Int × Int) : Below B a (put2 w b i v) := (h.setCell (p := ⟨b, i * 2, none⟩) hb _).setCell (p := ⟨b, i * 2 + 1, none⟩) hb _
theorem put2_size (w : World) (b i : Nat) (v : Int × Int) : (put2 w b i v).heap.size = w.heap.size := by simp [put2]
theorem put2_hit {w : World} {b n i : Nat} (hw : Writ w b (n * 2)) (hi : i < n) (v : Int × Int) : (put2 w b i v).cell? ⟨b, i * 2, none⟩ = some (.int .u32 v.1) ∧ (put2 w b i v).cell? ⟨b, i * 2 + 1, none⟩ = some (.int .u32 v.2) := by
  obtain ⟨⟨u, hu⟩, _⟩ := hw (i * 2) (by omega)
  obtain ⟨⟨u', hu'⟩, _⟩ := hw (i * 2 + 1) (by omega)
  refine ⟨?_, World.cell?_setCell_same _ _ _ (u := u') ?_⟩
  · rw [put2, World.cell?_setCell_other _ _ _ _ (fun e => absurd (congrArg Addr.off e) (by simp)), World.cell?_setCell_same _ _ _ hu]
  · rw [World.cell?_setCell_other _ _ _ _ (fun e => absurd (congrArg Addr.off e) (by simp))]; exact hu'
theorem put2_miss (w : World) (b i j o : Nat) (v : Int × Int) (hij : j ≠ i) (ho : o = j * 2 ∨ o = j * 2 + 1) : (put2 w b i v).cell? ⟨b, o, none⟩ = w.cell? ⟨b, o, none⟩ := by
  rw [put2, World.cell?_setCell_other _ _ _ _ (fun e => absurd (congrArg Addr.off e) (by show i * 2 + 1 ≠ o; omega)), World.cell?_setCell_other _ _ _ _ (fun e => absurd (congrArg Addr.off e) (by show i * 2 ≠ o; omega))]
theorem Tab.put {w : World} {b n i : Nat} {T : Nat → Int × Int} (h : Tab w b n T) (hw : Writ w b (n * 2)) (hi : i < n) (v : Int × Int) : Tab (put2 w b i v) b n (upd T i v) := fun j hj => by
  by_cases e : j = i
  · subst e
    have := put2_hit hw hi v
    simp only [upd, if_true]
    exact this
  · rw [put2_miss w b i j _ v e (.inl rfl), put2_miss w b i j _ v e (.inr rfl)]
    simp only [upd, if_neg e]
    exact h j hj
theorem Tab.snoc {w : World} {b n k : Nat} {T : Nat → Int × Int} (h : Tab w b k T) (hw : Writ w b (n * 2)) (hk : k < n) : Tab (put2 w b k (T k)) b (k + 1) T := fun j hj => by
  by_cases e : j = k
  · subst e
    exact put2_hit hw hk _
  · rw [put2_miss w b k j _ _ e (.inl rfl), put2_miss w b k j _ _ e (.inr rfl)]
    exact h j (by omega)
theorem Tab.zero (w : World) (n : Nat) (t : TypeId) : Tab (w.alloc (.cells (zs2 n) t)) w.heap.size n (fun _ => (0, 0)) := fun i hi => by
  rw [World.cell?_alloc_new, World.cell?_alloc_new]
  exact ⟨zs2_get n _ (by omega), zs2_get n _ (by omega)⟩
end Go.Proofs.Qxb6604790a
