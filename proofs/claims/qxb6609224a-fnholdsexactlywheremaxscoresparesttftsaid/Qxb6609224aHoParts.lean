import Derived.Test.Qxb6609224aProg
import Derived.WalkKit
import Derived.WalkLawsBesides
import Derived.RowKit3
import Derived.Outline
import Derived.Deep.MidRow
import Derived.Laws.Tables
namespace Go.Proofs.Qxb6609224a
open Go.RowKit

def reqCells (t p : Int) : List Value := [.int .i64 0, .int .i64 0, .int .i64 t, .int .i64 p, .int .i64 0, .slice none 0 0, .int .i64 0, .slice none 0 0, .slice none 0 0, .bool false, .int .u64 0, .int .i64 0,
  .pointer none, .int .i64 0, .bool false, .bool false, .bool false, .int .u64 0, .int .i64 0, .pointer none, .bool false, .bool false, .float .f64 0, .int .i64 0]

theorem req_one (t p : Int) : ((reqCells t p).toArray.all fun x => x.oneCell') = true := by
  simp [reqCells, Value.oneCell']

/-- One result, a struct, which lies in memory. -/
theorem results_cell {fn : Func} {p : Tmp} {ty : TypeId} (h : fn.results = #[.cell p ty]) (tmps : Array Value) (P : Program) (w : World) (b : Nat) (cs : List Value) (d : TypeDesc) (hp : tmps.getD p undef = .pointer (some ⟨b, 0, none⟩))
    (hc : w.rangeAt b 0 cs) (hu : P.underlying ty = some d) (hd : d.isRow = true) (hi : (P.info? ty).map (·.size) = some cs.length) :
    (results fn tmps).run P w = .ok (.agg cs.toArray) w := by
  have ha : (asAddr (tmps.getD p undef)).run P w = .ok ⟨b, 0, none⟩ w := by rw [hp]; rfl
  have hr : (results fn tmps).run P w = ((asAddr (tmps.getD p undef)).run P w).andThen fun a w₁ => ((loadVar ty a).run P w₁) := by
    simp only [results, h]
    simp [Sem.run_bind, Result.andThen]
  rw [hr, ha]
  exact run_loadVar_mid w b 0 ty cs d hc hu hd hi

theorem there_new (w : World) (cs : Array Value) (t : TypeId) (n : Nat) (h : n ≤ cs.size) : (w.alloc (.cells cs t)).there w.heap.size 0 n := fun j hj => by
  have hb := heap_alloc_new w (.cells cs t)
  rw [cell_of_row _ _ _ _ _ _ hb, frozen_of_row _ _ _ _ _ hb]
  simp; omega

theorem below_setCells {B : Nat} {a : World} (b : Nat) (hb : B ≤ b) (vs : List Value) : ∀ (o : Nat) (w : World), Below B a w → Below B a (w.setCells b o vs) := by
  induction vs with
  | nil => intro o w h; exact h
  | cons v r ih => intro o w h; exact ih (o + 1) _ (h.setCell hb v)

/-- A whole struct is stored into a new block: the world behind it under one name. -/
theorem wpList_store_new {P : Program} {ops : Array Oper} {rest : List Oper} {op : Oper} {a : Act} {w : World} {Q : Exit → Act → World → Prop} (hgd : op.guard = none) (ty : TypeId) (x y : Operand) (ho : op.op = .store ty x y)
    (b : Nat) (cells : List Value) (hx : a.eval x = .pointer (some ⟨b, 0, none⟩)) (hy : a.eval y = .agg cells.toArray)
    (ht : w.there b 0 cells.length) (hi : (P.info? ty).map (·.size) = some cells.length) (h1 : cells.toArray.all (·.oneCell') = true) (B : Nat) (a0 : World) (hb : Below B a0 w) (hB : B ≤ b)
    (h : ∀ w', w'.rangeAt b 0 cells → Below B a0 w' → wpList P ops Q rest (a.put op.dst undef) w') : wpList P ops Q (op :: rest) a w :=
  wpList_store_mid hgd ty x y ho b 0 cells.toArray hx hy ht hi h1 (h _ (World.rangeAt_setCells_same _ _ _ _ ht) (below_setCells b hB _ 0 _ hb))

set_option maxHeartbeats 1000000 in
theorem request (t p : Int) (w : World) :
    Calls Try.prog 30 #[.int .i64 t, .int .i64 p] w fun e w' => e = .returned (.agg (reqCells t p).toArray) ∧ Below w.heap.size w w' := by
  go_enter Try.func30, Try.ntmps30
  go_wp2_with (with_reducible refine wpList_store_mid (op := ⟨none, .store 55 (.tmp 4) (.tmp 8), _, _, _, none⟩) ?g1 55 (.tmp 4) (.tmp 8) ?g2 w.heap.size 0 (reqCells t p).toArray ?g3 ?g4 ?ht ?hi ?h1 ?next)
  case g1 => rfl
  case g2 => rfl
  case g3 => rfl
  case g4 => rfl
  case hi => kernel_rfl
  case h1 => exact req_one t p
  case ht => exact there_new w _ 55 _ (Nat.le_refl 24)
  refine bodyPost_ret (v := .agg (reqCells t p).toArray) (results_cell Try.results30 _ _ _ w.heap.size (reqCells t p) _ rfl ?_ Try.underlying55 rfl (by kernel_rfl)) rfl ⟨rfl, below_setCells _ (Nat.le_refl _) _ _ _ ((Below.refl _ _).alloc (Nat.le_refl _) _)⟩
  exact World.rangeAt_setCells_same _ _ _ _ (there_new w _ 55 _ (Nat.le_refl 24))

/-- A struct is built: its cells as one array that the walk does not open. -/
theorem wpList_built {P : Program} {ops : Array Oper} {rest : List Oper} {o : Oper} {a : Act} {w : World} {Q : Exit → Act → World → Prop} (hgd : o.guard = none) (t : TypeId) (parts : Array (Nat × Operand)) (ho : o.op = .build t parts)
    (cells : Array Value) (vals : List (Nat × Value)) (hv : (parts.map fun (i, x) => (i, a.eval x)).toList = vals) (hc : P.built t vals = some cells)
    (h : wpList P ops Q rest (a.put o.dst (.agg cells)) w) : wpList P ops Q (o :: rest) a w := by
  subst hv
  exact wpList_plain hgd fun _ hK => wp_build t parts ho (by rw [hc]; rfl) (by rw [hc]; exact hK _ _ h)

def cfgCells (h : Bool) (s p : ByteArray) : Array Value := #[.float .f64 0, .float .f64 0, .float .f64 0, .string s, .string p, .float .f64 0, .bool h, .bool false, .float .f64 0, .float .f64 0, .float .f64 0, .bool false, .pointer none]
theorem cfg_built (h : Bool) (s p : ByteArray) : Try.prog.built 96 [(6, .bool h), (3, .string s), (4, .string p)] = some (cfgCells h s p) := by kernel_rfl
def headCells (h : Bool) (s p : ByteArray) : Array Value := #[.float .f64 0, .float .f64 0, .float .f64 0, .string s, .string p, .float .f64 0, .bool h, .bool false, .float .f64 0, .float .f64 0, .float .f64 0, .bool false, .pointer none, .slice none 0 0, .slice none 0 0, .slice none 0 0, .slice none 0 0, .slice none 0 0, .int .u64 0, .int .i64 0, .pointer none, .int .u64 0, .int .i64 0, .pointer none, .bool false, .float .f64 0, .float .f64 0, .float .f64 0, .float .f64 0, .float .f64 0, .float .f64 0, .float .f64 0, .float .f64 0, .float .f64 0, .float .f64 0, .float .f64 0, .float .f64 0, .float .f64 0, .float .f64 0, .float .f64 0, .float .f64 0, .float .f64 0, .float .f64 0, .float .f64 0, .float .f64 0, .float .f64 0, .float .f64 0, .float .f64 0, .float .f64 0, .float .f64 0, .float .f64 0, .float .f64 0, .float .f64 0, .float .f64 0, .float .f64 0, .float .f64 0, .float .f64 0, .float .f64 0, .float .f64 0, .float .f64 0, .float .f64 0, .float .f64 0, .float .f64 0, .float .f64 0, .float .f64 0, .float .f64 0, .float .f64 0, .float .f64 0, .float .f64 0, .float .f64 0, .float .f64 0, .float .f64 0, .float .f64 0, .float .f64 0, .float .f64 0, .float .f64 0, .float .f64 0, .float .f64 0, .float .f64 0, .float .f64 0, .float .f64 0, .float .f64 0, .float .f64 0, .float .f64 0, .float .f64 0, .float .f64 0, .float .f64 0, .float .f64 0, .float .f64 0, .float .f64 0, .float .f64 0, .float .f64 0, .float .f64 0, .float .f64 0, .float .f64 0, .float .f64 0, .float .f64 0, .int .i64 0, .int .i64 0, .float .f64 0, .float .f64 0]
theorem head_built (h : Bool) (s p : ByteArray) : Try.prog.built 102 [(0, .agg (cfgCells h s p))] = some (headCells h s p) := by kernel_rfl
theorem head3 (h : Bool) (s p : ByteArray) : (headCells h s p)[3]? = some (.string s) := by kernel_rfl
theorem head4 (h : Bool) (s p : ByteArray) : (headCells h s p)[4]? = some (.string p) := by kernel_rfl
theorem head5 (h : Bool) (s p : ByteArray) : (headCells h s p)[5]? = some (.float .f64 0) := by kernel_rfl
theorem head6 (h : Bool) (s p : ByteArray) : (headCells h s p)[6]? = some (.bool h) := by kernel_rfl

set_option maxHeartbeats 1000000 in
theorem headroom (h : Bool) (s p : ByteArray) (w : World) :
    Calls Try.prog 29 #[.bool h, .string s, .string p] w fun e w' => e = .returned (.pointer (some ⟨w.heap.size, 0, none⟩)) ∧ Below w.heap.size w w' ∧ w'.heap.size = w.heap.size + 1 ∧
      w'.cell? ⟨w.heap.size, 3, none⟩ = some (.string s) ∧ w'.cell? ⟨w.heap.size, 4, none⟩ = some (.string p) ∧ w'.cell? ⟨w.heap.size, 5, none⟩ = some (.float .f64 0) ∧ w'.cell? ⟨w.heap.size, 6, none⟩ = some (.bool h) := by
  go_enter Try.func29, Try.ntmps29
  go_wp2_with (first
    | (with_reducible refine wpList_built (o := ⟨some 10, .build 96 _, _, _, _, none⟩) ?g1 96 #[(6, .tmp 7), (3, .tmp 8), (4, .tmp 9)] ?g2 (cfgCells h s p) [(6, .bool h), (3, .string s), (4, .string p)] ?g3 ?g4 ?next)
    | (with_reducible refine wpList_built (o := ⟨some 11, .build 102 _, _, _, _, none⟩) ?k1 102 #[(0, .tmp 10)] ?k2 (headCells h s p) [(0, .agg (cfgCells h s p))] ?k3 ?k4 ?next2))
  case g1 => rfl
  case g2 => rfl
  case g4 => exact cfg_built h s p
  case k1 => rfl
  case k2 => rfl
  case k4 => exact head_built h s p
  go_ret
  refine ⟨rfl, (Below.refl _ _).alloc (Nat.le_refl _) _, by simp, ?_, ?_, ?_, ?_⟩
  · rw [cell_of_row _ _ _ _ _ _ (heap_alloc_new w _)]; exact head3 h s p
  · rw [cell_of_row _ _ _ _ _ _ (heap_alloc_new w _)]; exact head4 h s p
  · rw [cell_of_row _ _ _ _ _ _ (heap_alloc_new w _)]; exact head5 h s p
  · rw [cell_of_row _ _ _ _ _ _ (heap_alloc_new w _)]; exact head6 h s p
end Go.Proofs.Qxb6609224a
