import Derived.Test.Qxb6609224aRlTail
import Derived.Deep.OwnRows
namespace Go.Proofs.Qxb6609224a.Rl
open Go.RowKit

theorem Owns.open {w wy : World} {rb pb mb : Nat} {d : Dat} {ex : Nat → Prop} (h : Owns w wy rb pb mb d ex) (hb : Below w.heap.size w wy) (hex : ∀ b, ex b → b < wy.heap.size) :
    ∃ F, St w.heap.size wy rb pb mb d F ∧ ∀ w' d', St w.heap.size w' rb pb mb d' (grow F wy w') → Fr wy w' F → Owns w w' rb pb mb d' ex ∧ Below w.heap.size w w' ∧ (∀ b, ex b → w'.heap[b]? = wy.heap[b]?) := by
  obtain ⟨F, hst, hF⟩ := h
  refine ⟨F, hst, fun w' d' hs hf => ?_⟩
  obtain ⟨h1, h2, h3, _⟩ := Owns.next hF hb.size hex hs hf hb
  exact ⟨h1, h2, h3⟩

/-- The record, and a row of counts beside it. -/
def One (w wy : World) (rb pb mb cb : Nat) (d : Dat) (f : Nat → Int) (K : Nat) : Prop :=
  Owns w wy rb pb mb d (fun b => b = cb) ∧ Below w.heap.size w wy ∧ wy.rowIs cb 3 K (fun j => .int .i64 (f j)) ∧ w.heap.size ≤ cb

theorem alloc_below {w wy : World} (hb : Below w.heap.size w wy) (o : Obj) : Below w.heap.size w (wy.alloc o) :=
  ⟨hb.os, hb.tape, hb.output, by have := hb.size; simp; omega, fun b h => (Below.heap_alloc _ _ _ (Nat.lt_of_lt_of_le h hb.size)).trans (hb.block b h)⟩
theorem setCell_below {w wy : World} (hb : Below w.heap.size w wy) (a : Addr) (v : Value) (ha : w.heap.size ≤ a.block) : Below w.heap.size w (wy.setCell a v) :=
  ⟨hb.os, hb.tape, hb.output, by have := hb.size; simp; omega, fun b h => (Below.heap_setCell _ _ _ _ (by omega)).trans (hb.block b h)⟩

theorem One.start {w wx : World} {rb pb mb : Nat} {d : Dat} (K : Nat) (h : Owns w wx rb pb mb d (fun _ => False)) (hb : Below w.heap.size w wx) :
    One w (wx.alloc (.cells (madeCells #[.int .i64 0] K) 3)) rb pb mb wx.heap.size d (fun _ => 0) K :=
  ⟨h.more (by simp) (fun b hb' => Below.heap_alloc _ _ _ hb') (fun _ hb' => Or.inr (by omega)), alloc_below hb _, World.rowIs_made _ _ _ _, hb.size⟩
theorem One.congr {w wy : World} {rb pb mb cb : Nat} {d : Dat} {f f' : Nat → Int} {K : Nat} (h : One w wy rb pb mb cb d f K) (e : ∀ j, j < K → f j = f' j) : One w wy rb pb mb cb d f' K :=
  ⟨h.1, h.2.1, h.2.2.1.congr (fun j hj => by rw [e j hj]), h.2.2.2⟩
theorem One.set {w wy : World} {rb pb mb cb : Nat} {d : Dat} {f : Nat → Int} {K : Nat} (h : One w wy rb pb mb cb d f K) (i : Nat) (x : Int) : One w (wy.setCell ⟨cb, i, none⟩ (.int .i64 x)) rb pb mb cb d (fun j => if j = i then x else f j) K := by
  obtain ⟨h1, h2, h3, h4⟩ := h
  refine ⟨h1.keep (by simp) (fun b _ hb => Below.heap_setCell _ _ _ _ hb), setCell_below h2 _ _ h4, (h3.set i _).congr (fun j _ => ?_), h4⟩
  by_cases e : j = i
  · subst e; simp
  · simp [e]
theorem One.open {w wy : World} {rb pb mb cb : Nat} {d : Dat} {f : Nat → Int} {K : Nat} (h : One w wy rb pb mb cb d f K) :
    ∃ F, St w.heap.size wy rb pb mb d F ∧ ∀ w' d', St w.heap.size w' rb pb mb d' (grow F wy w') → Fr wy w' F → One w w' rb pb mb cb d' f K := by
  obtain ⟨h1, h2, h3, h4⟩ := h
  obtain ⟨F, hst, hn⟩ := h1.open h2 (fun b hb => by have := h3.lt; omega)
  refine ⟨F, hst, fun w' d' hs hf => ?_⟩
  obtain ⟨k1, k2, k3⟩ := hn w' d' hs hf
  exact ⟨k1, k2, h3.of_block (k3 cb rfl), h4⟩

/-- .. and a row of last uses. -/
def Rnd (w wy : World) (rb pb mb cb ub : Nat) (d : Dat) (f g : Nat → Int) (K : Nat) : Prop :=
  Owns w wy rb pb mb d (fun b => b = cb ∨ b = ub) ∧ Below w.heap.size w wy ∧ wy.rowIs cb 3 K (fun j => .int .i64 (f j)) ∧ wy.rowIs ub 22 K (fun j => .int .u64 (g j)) ∧ w.heap.size ≤ cb ∧ w.heap.size ≤ ub ∧ cb ≠ ub

theorem Rnd.start {w wx : World} {rb pb mb cb : Nat} {d : Dat} {f : Nat → Int} {K : Nat} (h : One w wx rb pb mb cb d f K) :
    Rnd w (wx.alloc (.cells (madeCells #[.int .u64 0] K) 22)) rb pb mb cb wx.heap.size d f (fun _ => 0) K := by
  obtain ⟨h1, h2, h3, h4⟩ := h
  have := h3.lt
  exact ⟨h1.more (by simp) (fun b hb' => Below.heap_alloc _ _ _ hb') (fun b hb' => by rcases hb' with h | h; exact Or.inl h; exact Or.inr (by omega)), alloc_below h2 _, h3.alloc _, World.rowIs_made _ _ _ _, h4, h2.size, by omega⟩
theorem Rnd.congr {w wy : World} {rb pb mb cb ub : Nat} {d : Dat} {f g f' g' : Nat → Int} {K : Nat} (h : Rnd w wy rb pb mb cb ub d f g K) (e : ∀ j, j < K → f j = f' j) (e' : ∀ j, j < K → g j = g' j) : Rnd w wy rb pb mb cb ub d f' g' K :=
  ⟨h.1, h.2.1, h.2.2.1.congr (fun j hj => by rw [e j hj]), h.2.2.2.1.congr (fun j hj => by rw [e' j hj]), h.2.2.2.2⟩
theorem Rnd.setC {w wy : World} {rb pb mb cb ub : Nat} {d : Dat} {f g : Nat → Int} {K : Nat} (h : Rnd w wy rb pb mb cb ub d f g K) (i : Nat) (x : Int) : Rnd w (wy.setCell ⟨cb, i, none⟩ (.int .i64 x)) rb pb mb cb ub d (fun j => if j = i then x else f j) g K := by
  obtain ⟨h1, h2, h3, h4, h5, h6, h7⟩ := h
  refine ⟨h1.keep (by simp) (fun b _ hb => Below.heap_setCell _ _ _ _ (fun e => hb (Or.inl e))), setCell_below h2 _ _ h5, (h3.set i _).congr (fun j _ => ?_), h4.setOther (by show ub ≠ cb; omega) _, h5, h6, h7⟩
  by_cases e : j = i
  · subst e; simp
  · simp [e]
theorem Rnd.setU {w wy : World} {rb pb mb cb ub : Nat} {d : Dat} {f g : Nat → Int} {K : Nat} (h : Rnd w wy rb pb mb cb ub d f g K) (i : Nat) (x : Int) : Rnd w (wy.setCell ⟨ub, i, none⟩ (.int .u64 x)) rb pb mb cb ub d f (fun j => if j = i then x else g j) K := by
  obtain ⟨h1, h2, h3, h4, h5, h6, h7⟩ := h
  refine ⟨h1.keep (by simp) (fun b _ hb => Below.heap_setCell _ _ _ _ (fun e => hb (Or.inr e))), setCell_below h2 _ _ h6, h3.setOther (by show cb ≠ ub; omega) _, (h4.set i _).congr (fun j _ => ?_), h5, h6, h7⟩
  by_cases e : j = i
  · subst e; simp
  · simp [e]
theorem Rnd.open {w wy : World} {rb pb mb cb ub : Nat} {d : Dat} {f g : Nat → Int} {K : Nat} (h : Rnd w wy rb pb mb cb ub d f g K) :
    ∃ F, St w.heap.size wy rb pb mb d F ∧ ∀ w' d', St w.heap.size w' rb pb mb d' (grow F wy w') → Fr wy w' F → Rnd w w' rb pb mb cb ub d' f g K := by
  obtain ⟨h1, h2, h3, h4, h5, h6, h7⟩ := h
  obtain ⟨F, hst, hn⟩ := h1.open h2 (fun b hb => by have := h3.lt; have := h4.lt; omega)
  refine ⟨F, hst, fun w' d' hs hf => ?_⟩
  obtain ⟨k1, k2, k3⟩ := hn w' d' hs hf
  exact ⟨k1, k2, h3.of_block (k3 cb (Or.inl rfl)), h4.of_block (k3 ub (Or.inr rfl)), h5, h6, h7⟩
theorem Rnd.ends {w wy : World} {rb pb mb cb ub : Nat} {d : Dat} {f : Nat → Int} {U : List Int} {K : Nat} (h : Rnd w wy rb pb mb cb ub d f (fun j => U.getD j 0) K) : Ends w wy rb pb mb d ub U K :=
  ⟨h.1.more (Nat.le_refl _) (fun _ _ => rfl) (fun _ h => h.elim), h.2.1, fun _ hj => h.2.2.2.1.cell hj⟩
theorem info22 : (Try.prog.info? 22).map (fun i => (i.zero, i.size, i.bytes)) = some (some (.int .u64 0), 1, 8) := by kernel_rfl
end Go.Proofs.Qxb6609224a.Rl
