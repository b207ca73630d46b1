import Derived.Test.Qxb6609224aProg
import Derived.WalkKit
import Derived.WalkLawsBesides
import Derived.Outline
import Derived.OneCell
import Derived.Deep.AppendLies
import Derived.Maps.AppendAt
namespace Go.Proofs.Qxb6609224a.Rl
open Go.RowKit

/-- What the record and its one path hold, as plain data. A block: id, end, used (branches is always 0). -/
structure Dat where
  cap : Int
  tokens : Int
  ended : Int
  keys : List Int
  blocks : List (Int × Int × Int)
  stops : List Int
  leaf : Bool
  spare : Nat

def blkCell (b : Int × Int × Int) : List Value := [.int .i64 b.1, .int .i64 b.2.1, .int .u64 b.2.2, .int .i64 0]
def blkCells (l : List (Int × Int × Int)) : List Value := l.flatMap blkCell
theorem blkCells_length (l : List (Int × Int × Int)) : (blkCells l).length = l.length * 4 := by
  induction l with
  | nil => rfl
  | cons b l ih => simp only [blkCells, List.flatMap_cons, List.length_append, List.length_cons] at *; rw [ih]; simp [blkCell]; omega
theorem blkCells_append (a b : List (Int × Int × Int)) : blkCells (a ++ b) = blkCells a ++ blkCells b := List.flatMap_append

/-- The map's entries: the keys in order; each element a place. -/
def Keys (es : Array MapEntry) (ks : List Int) : Prop := es.toList.map (·.key) = ks.map (Value.int .i64) ∧ ∀ e ∈ es.toList, ∃ x y, e.val = .agg #[.pointer x, .int .i64 y]

structure At (B : Nat) (w : World) (rb pb mb : Nat) (d : Dat) (LV SV BV TV : Value) : Prop where
  r : w.heap[rb]? = some (.cells #[.int .i64 d.cap, .int .i64 d.tokens, .map (some mb), LV, .int .u64 d.ended, SV] 81 (0, 0))
  p : w.heap[pb]? = some (.cells #[.pointer none, .int .i64 0, BV, TV, .int .i64 (if d.leaf then 0 else -1)] 84 (0, 0))
  m : ∃ es clock, w.heap[mb]? = some (.map es clock) ∧ Keys es d.keys
  l : w.ownsRow B 29 1 LV (if d.leaf then 1 else 0) (if d.leaf then [.pointer (some ⟨pb, 0, none⟩)] else [])
  s : w.ownsRow B 29 1 SV d.spare (List.replicate d.spare (.pointer (some ⟨pb, 0, none⟩)))
  b : w.ownsRow B 86 4 BV d.blocks.length (blkCells d.blocks)
  t : w.ownsRow B 3 1 TV d.stops.length (d.stops.map (Value.int .i64))
  ls : ∀ k, LV.ownBlock = some k → SV.ownBlock ≠ some k
  Br : B ≤ rb
  Bp : B ≤ pb
  Bm : B ≤ mb

/-- The blocks that belong to it. -/
def foot (rb pb mb : Nat) (LV SV BV TV : Value) (b : Nat) : Prop := b = rb ∨ b = pb ∨ b = mb ∨ LV.ownBlock = some b ∨ SV.ownBlock = some b ∨ BV.ownBlock = some b ∨ TV.ownBlock = some b

/-- The record's state: d; every block that belongs to it is in F. -/
def St (B : Nat) (w : World) (rb pb mb : Nat) (d : Dat) (F : Nat → Prop) : Prop := ∃ LV SV BV TV, At B w rb pb mb d LV SV BV TV ∧ ∀ b, foot rb pb mb LV SV BV TV b → F b

def grow (F : Nat → Prop) (w w' : World) (b : Nat) : Prop := F b ∨ (w.heap.size ≤ b ∧ b < w'.heap.size)

/-- Blocks outside F are as they were. -/
structure Fr (w w' : World) (F : Nat → Prop) : Prop where
  os : w'.os = w.os
  tape : w'.tape = w.tape
  output : w'.output = w.output
  size : w.heap.size ≤ w'.heap.size
  block : ∀ b, b < w.heap.size → ¬ F b → w'.heap[b]? = w.heap[b]?

theorem Fr.refl (w : World) (F : Nat → Prop) : Fr w w F := ⟨rfl, rfl, rfl, Nat.le_refl _, fun _ _ _ => rfl⟩
theorem Fr.trans {w w1 w2 : World} {F : Nat → Prop} (h : Fr w w1 F) (k : Fr w1 w2 (grow F w w1)) : Fr w w2 F :=
  ⟨k.os.trans h.os, k.tape.trans h.tape, k.output.trans h.output, Nat.le_trans h.size k.size, fun b hb hF =>
    (k.block b (Nat.lt_of_lt_of_le hb h.size) (fun hg => by rcases hg with hg | hg; exact hF hg; omega)).trans (h.block b hb hF)⟩
theorem Fr.mono {w w1 : World} {F G : Nat → Prop} (h : Fr w w1 F) (hFG : ∀ b, F b → G b) : Fr w w1 G := ⟨h.os, h.tape, h.output, h.size, fun b hb hG => h.block b hb (fun hF => hG (hFG b hF))⟩
theorem Fr.drew {w w1 : World} {F : Nat → Prop} (h : Fr w w1 F) : Fr w w1.drew F := ⟨h.os, h.tape, h.output, h.size, h.block⟩
theorem Fr.drewN {w w1 : World} {F : Nat → Prop} (h : Fr w w1 F) (n : Nat) : Fr w (w1.drewN n) F := ⟨h.os, h.tape, h.output, h.size, h.block⟩
theorem Fr.alloc {w w1 : World} {F : Nat → Prop} (h : Fr w w1 F) (o : Obj) : Fr w (w1.alloc o) F :=
  ⟨h.os, h.tape, h.output, by have := h.size; simp; omega, fun b hb hF => (Below.heap_alloc _ _ _ (Nat.lt_of_lt_of_le hb h.size)).trans (h.block b hb hF)⟩
theorem Fr.setCell {w w1 : World} {F : Nat → Prop} (h : Fr w w1 F) (a : Addr) (v : Value) (ha : F a.block ∨ w.heap.size ≤ a.block) : Fr w (w1.setCell a v) F :=
  ⟨h.os, h.tape, h.output, by have := h.size; simp; omega, fun b hb hF => (Below.heap_setCell _ _ _ _ (fun e => by subst e; rcases ha with ha | ha; exact hF ha; omega)).trans (h.block b hb hF)⟩
theorem Fr.grown {w w1 w2 : World} {F : Nat → Prop} {row : Option Nat} (h : Fr w w1 F) (hg : w1.grownBy w2 row) (hr : ∀ k, row = some k → F k ∨ w.heap.size ≤ k) : Fr w w2 F :=
  ⟨hg.os.trans h.os, hg.tape.trans h.tape, hg.output.trans h.output, Nat.le_trans h.size hg.size, fun b hb hF =>
    (hg.block b (Nat.lt_of_lt_of_le hb h.size) (fun e => by rcases hr b e.symm with hr | hr; exact hF hr; omega)).trans (h.block b hb hF)⟩
theorem Fr.below {B : Nat} {w w1 : World} {F : Nat → Prop} (h : Fr w w1 F) (hF : ∀ b, F b → B ≤ b) (hB : B ≤ w.heap.size) : Below B w w1 :=
  ⟨h.os, h.tape, h.output, h.size, fun k hk => h.block k (by omega) (fun hf => by have := hF k hf; omega)⟩

theorem St.mono {B : Nat} {w : World} {rb pb mb : Nat} {d : Dat} {F G : Nat → Prop} (h : St B w rb pb mb d F) (hFG : ∀ b, F b → G b) : St B w rb pb mb d G := by
  obtain ⟨LV, SV, BV, TV, hA, hf⟩ := h
  exact ⟨LV, SV, BV, TV, hA, fun b hb => hFG b (hf b hb)⟩

theorem own_keep {w w' : World} {B : Nat} {e : TypeId} {size : Nat} {v : Value} {n : Nat} {xs : List Value} (h : w.ownsRow B e size v n xs) (hk : ∀ k, v.ownBlock = some k → w'.heap[k]? = w.heap[k]?) : w'.ownsRow B e size v n xs := by
  obtain ⟨a, b⟩ := h
  refine ⟨a, ?_⟩
  rcases b with b | ⟨g, cap, cur, hv, hb, hg, r⟩
  · exact Or.inl b
  · subst hv
    exact Or.inr ⟨g, cap, cur, rfl, hb, (hk g rfl).trans hg, r⟩

/-- An owned row's block is of the row's own kind. -/
theorem own_ne {w : World} {B : Nat} {e : TypeId} {size : Nat} {v : Value} {n : Nat} {xs : List Value} (h : w.ownsRow B e size v n xs) {b : Nat} {o : Obj} (hb : w.heap[b]? = some o) (ho : ∀ cur, o ≠ .cells cur e (0, 0)) : ∀ k, v.ownBlock = some k → k ≠ b := by
  intro k hk e
  subst e
  rcases h.2 with ⟨rfl, _⟩ | ⟨g, cap, cur, rfl, _, hg, _⟩
  · simp [Value.ownBlock] at hk
  · simp [Value.ownBlock] at hk
    subst hk
    rw [hb] at hg
    simp at hg
    exact ho cur hg

theorem own_blk {w : World} {B : Nat} {e : TypeId} {size : Nat} {v : Value} {n : Nat} {xs : List Value} (h : w.ownsRow B e size v n xs) : ∀ k, v.ownBlock = some k → ∃ cur, w.heap[k]? = some (.cells cur e (0, 0)) := by
  intro k hk
  rcases h.2 with ⟨rfl, _⟩ | ⟨g, cap, cur, rfl, _, hg, _⟩
  · simp [Value.ownBlock] at hk
  · simp [Value.ownBlock] at hk
    subst hk
    exact ⟨cur, hg⟩

theorem At.keep {B : Nat} {w w' : World} {rb pb mb : Nat} {d : Dat} {LV SV BV TV : Value} (h : At B w rb pb mb d LV SV BV TV) (hk : ∀ b, foot rb pb mb LV SV BV TV b → w'.heap[b]? = w.heap[b]?) : At B w' rb pb mb d LV SV BV TV := by
  obtain ⟨r, p, ⟨es, clock, m, hm⟩, l, s, b, t, ls, B1, B2, B3⟩ := h
  exact ⟨(hk rb (Or.inl rfl)).trans r, (hk pb (Or.inr (Or.inl rfl))).trans p, ⟨es, clock, (hk mb (Or.inr (Or.inr (Or.inl rfl)))).trans m, hm⟩,
    own_keep l (fun k hk' => hk k (Or.inr (Or.inr (Or.inr (Or.inl hk'))))), own_keep s (fun k hk' => hk k (Or.inr (Or.inr (Or.inr (Or.inr (Or.inl hk')))))),
    own_keep b (fun k hk' => hk k (Or.inr (Or.inr (Or.inr (Or.inr (Or.inr (Or.inl hk'))))))), own_keep t (fun k hk' => hk k (Or.inr (Or.inr (Or.inr (Or.inr (Or.inr (Or.inr hk'))))))), ls, B1, B2, B3⟩

theorem At.lt {B : Nat} {w : World} {rb pb mb : Nat} {d : Dat} {LV SV BV TV : Value} (h : At B w rb pb mb d LV SV BV TV) : ∀ b, foot rb pb mb LV SV BV TV b → b < w.heap.size := by
  obtain ⟨r, p, ⟨es, clock, m, hm⟩, l, s, b, t, _⟩ := h
  intro k hk
  rcases hk with rfl | rfl | rfl | hk | hk | hk | hk
  · exact lt_of_block r
  · exact lt_of_block p
  · exact lt_of_block m
  · exact (l.lt k hk).2
  · exact (s.lt k hk).2
  · exact (b.lt k hk).2
  · exact (t.lt k hk).2

theorem St.keep {B : Nat} {w w' : World} {rb pb mb : Nat} {d : Dat} {F : Nat → Prop} (h : St B w rb pb mb d F) (hk : ∀ b, b < w.heap.size → F b → w'.heap[b]? = w.heap[b]?) : St B w' rb pb mb d F := by
  obtain ⟨LV, SV, BV, TV, hA, hf⟩ := h
  exact ⟨LV, SV, BV, TV, hA.keep (fun b hb => hk b (hA.lt b hb) (hf b hb)), hf⟩

theorem St.below {B b0 : Nat} {w w' : World} {rb pb mb : Nat} {d : Dat} {F : Nat → Prop} (h : St B w rb pb mb d F) (hb : Below b0 w w') (hs : b0 = w.heap.size) : St B w' rb pb mb d F :=
  h.keep (fun b hb' _ => hb.block b (by omega))

theorem grow_grow {F : Nat → Prop} {w w1 w2 : World} (h1 : w.heap.size ≤ w1.heap.size) (h2 : w1.heap.size ≤ w2.heap.size) : ∀ b, grow (grow F w w1) w1 w2 b → grow F w w2 b := by
  intro b hb
  rcases hb with (hb | hb) | hb
  · exact Or.inl hb
  · exact Or.inr (by omega)
  · exact Or.inr (by omega)

end Go.Proofs.Qxb6609224a.Rl
