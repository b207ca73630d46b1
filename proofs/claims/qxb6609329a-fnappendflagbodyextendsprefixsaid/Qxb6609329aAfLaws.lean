import Derived.Test.Qxb6609329aProg
import Derived.WalkKit
import Derived.WalkLawsBesides
import Derived.Deep.AppendSrc
import Derived.Deep.MidRow
import Derived.Laws.BytesString
import Derived.Laws.OwnMore
import Derived.Outline
namespace Go.Proofs.Qxb6609329a
open Go.RowKit

def bcells (bs : List UInt8) : List Value := bs.map fun b => Value.int .u8 b.toNat
theorem bcells_append (a b : List UInt8) : bcells (a ++ b) = bcells a ++ bcells b := List.map_append
theorem bcells_length (a : List UInt8) : (bcells a).length = a.length := by simp [bcells]
theorem bcells_one (a : List UInt8) : ∀ u ∈ bcells a, u.oneCell' = true := by
  intro u hu
  obtain ⟨_, _, rfl⟩ := List.mem_map.1 hu
  rfl

/-- v is a slice of bytes at the head of a row of the call's own (or nil); its elements are bs. -/
def Own (B : Nat) (w : World) (v : Value) (bs : List UInt8) : Prop :=
  (v = .slice none 0 0 ∧ bs = []) ∨
  ∃ g cap, v = .slice (some ⟨g, 0, none⟩) bs.length cap ∧ B ≤ g ∧ g < w.heap.size ∧ bs.length ≤ cap ∧ w.rangeAt g 0 (bcells bs) ∧ w.there g 0 cap

theorem Own.form {B : Nat} {w : World} {v : Value} {bs : List UInt8} (h : Own B w v bs) : ∃ a c, v = .slice a bs.length c := by
  rcases h with ⟨rfl, rfl⟩ | ⟨g, cap, rfl, _⟩
  · exact ⟨none, 0, rfl⟩
  · exact ⟨_, _, rfl⟩

theorem Own.lt {B : Nat} {w : World} {v : Value} {bs : List UInt8} (h : Own B w v bs) : ∀ k, v.ownBlock = some k → B ≤ k ∧ k < w.heap.size := by
  intro k hk
  rcases h with ⟨rfl, rfl⟩ | ⟨g, cap, rfl, hb, hg, _⟩
  · simp [Value.ownBlock] at hk
  · simp [Value.ownBlock] at hk
    subst hk
    exact ⟨hb, hg⟩

theorem Own.keep {B : Nat} {w w' : World} {v : Value} {bs : List UInt8} (h : Own B w v bs) (hs : w.heap.size ≤ w'.heap.size) (e : ∀ k, v.ownBlock = some k → w'.heap[k]? = w.heap[k]?) : Own B w' v bs := by
  rcases h with h | ⟨g, cap, rfl, hb, hg, hl, hr, ht⟩
  · exact Or.inl h
  · have he := e g rfl
    refine Or.inr ⟨g, cap, rfl, hb, by omega, hl, fun j v hv => ?_, fun j hj => ?_⟩
    · rw [World.cell?_of_block (w := w) he]; exact hr j v hv
    · rw [World.cell?_of_block (w := w) he, World.frozen?_of_block (w := w) he]; exact ht j hj

theorem info5 : (Try.prog.info? 5).map (fun i => (i.zero, i.size, i.bytes)) = some (some (.int .u8 0), 1, 1) := by kernel_rfl

theorem setCells_grown (b : Nat) (vs : List Value) : ∀ (o : Nat) (w : World), w.grownBy (w.setCells b o vs) (some b) := by
  induction vs with
  | nil => intro o w; exact World.grownBy.refl _ _
  | cons v r ih =>
    intro o w
    have h := ih (o + 1) (w.setCell ⟨b, o, none⟩ v)
    refine ⟨h.os, h.tape, h.output, by have := h.size; simp at this; exact this, fun k hk hne => ?_⟩
    have := h.block k (by simpa using hk) hne
    refine this.trans (Below.heap_setCell _ _ _ _ ?_)
    intro e; exact hne (by rw [e])

/-- What an append leaves. -/
structure Grew (B : Nat) (w w' : World) (v v' : Value) (bs : List UInt8) : Prop where
  own : Own B w' v' bs
  grown : w.grownBy w' v.ownBlock
  place : v'.ownBlock = v.ownBlock ∨ ∃ k, v'.ownBlock = some k ∧ w.heap.size ≤ k

theorem append_own (B : Nat) (w : World) (tx ty : TypeId) (v : Value) (bs nb : List UInt8) (hown : Own B w v bs) (x : Value) (hs : Src Try.prog 1 tx x nb.length (bcells nb) w)
    (hbd : bs.length + nb.length ≤ 16777216) (hB : B ≤ w.heap.size) :
    ∃ v' w', (Builtin.append_ #[26, tx] ty #[v, x]).run Try.prog w = .ok v' w' ∧ Grew B w w' v v' (bs ++ nb) := by
  obtain ⟨i0, hi, hz0, hz1, hz2⟩ := info_parts info5
  have hs' : Src Try.prog i0.size tx x nb.length (bcells nb) w := by rw [hz1]; exact hs
  have fresh : ∀ (base : Option Addr) (cap : Nat), cap < bs.length + nb.length → v = .slice base bs.length cap → (Builtin.firstCells i0.size bs.length (.slice base bs.length cap)).run Try.prog w.drew = .ok (bcells bs).toArray w.drew →
      ∃ v' w', (Builtin.append_ #[26, tx] ty #[v, x]).run Try.prog w = .ok v' w' ∧ Grew B w w' v v' (bs ++ nb) := by
    intro base cap hcap hv hold
    subst hv
    have hr := run_append_grow_src (P := Try.prog) w 26 tx ty 5 i0 (.int .u8 0) Try.underlying26 hi hz0 base bs.length cap (bcells bs) hold x nb.length (bcells nb) hs' hcap (by omega) (by rw [hz2]; exact growslice_fits (by omega) (by omega))
    have hge := grownCap_ge w (bs.length + nb.length) cap 5
    have hnew := heap_alloc_new w.drew (.cells ((bcells bs ++ bcells nb).toArray ++ Builtin.zeroCells (Value.int IntKind.u8 0).cells (grownCap w (bs.length + nb.length) cap 5 - (bs.length + nb.length))) 5)
    refine ⟨_, _, hr, ⟨Or.inr ⟨w.heap.size, _, by rw [List.length_append], hB, by simp, by rw [List.length_append]; exact hge, fun j u hu => ?_, fun j hj => ?_⟩, ?_, Or.inr ⟨w.heap.size, rfl, Nat.le_refl _⟩⟩⟩
    · have hj : j < (bcells bs ++ bcells nb).length := by
        rw [bcells_append] at hu
        exact (List.getElem?_eq_some_iff.1 hu).1
      rw [bcells_append] at hu
      have := cell_of_row _ _ (0 + j) _ _ _ hnew
      refine this.trans ?_
      rw [Array.getElem?_append_left (by simpa using hj)]
      simpa using hu
    · have h1 := cell_of_row _ _ (0 + j) _ _ _ hnew
      have h2 := frozen_of_row _ _ (0 + j) _ _ hnew
      refine ⟨?_, h2⟩
      refine (congrArg Option.isSome h1).trans ?_
      simp [bcells_length, size_zeroCells, Value.cells]; omega
    · exact ⟨rfl, rfl, rfl, by simp, fun k hk _ => Below.heap_alloc _ _ _ hk⟩
  have hown0 := hown
  rcases hown with ⟨rfl, rfl⟩ | ⟨g, cap, rfl, hb, hg, hlen, hrange, hthere⟩
  · by_cases h0 : nb.length = 0
    · have hn : nb = [] := List.eq_nil_of_length_eq_zero h0
      subst hn
      refine ⟨.slice none 0 0, w, ?_, ⟨Or.inl ⟨rfl, rfl⟩, World.grownBy.refl _ _, Or.inl rfl⟩⟩
      have hl : ∀ w', (Builtin.lenOf x).run Try.prog w' = .ok 0 w' := hs'.len
      have hc : (Builtin.firstCells i0.size 0 x).run Try.prog w = .ok #[] w := hs'.cells
      rcases hs.kind with ⟨e', hk⟩ | hk
      · simp [Builtin.append_, run_underlying Try.underlying26, run_underlying hk, sizeOf, typeInfo, hi, hl, hc]
      · simp [Builtin.append_, run_underlying Try.underlying26, run_underlying hk, sizeOf, typeInfo, hi, hl, hc]
    · exact fresh none 0 (by simp; omega) rfl (by rw [hz1]; exact run_firstCells_none w.drew 1 0 0 0)
  · by_cases hroom : bs.length + nb.length ≤ cap
    · have hr := run_append_room_src (P := Try.prog) w 26 tx ty 5 i0 Try.underlying26 hi g 0 bs.length cap x nb.length (bcells nb) hs' hroom
        (fun j hj => by
          rw [bcells_length] at hj
          have := (hthere (bs.length + j) (by omega)).1
          rw [hz1, Nat.mul_one, Nat.zero_add]
          rwa [Nat.zero_add] at this)
        (fun j hj => by
          rw [bcells_length] at hj
          have := (hthere (bs.length + j) (by omega)).2
          rw [hz1, Nat.mul_one, Nat.zero_add]
          rwa [Nat.zero_add] at this)
      rw [hz1, Nat.mul_one, Nat.zero_add] at hr
      have hgr := setCells_grown g (bcells nb) bs.length w
      refine ⟨_, _, hr, ⟨Or.inr ⟨g, cap, by rw [List.length_append], hb, by have := hgr.size; omega, by rw [List.length_append]; exact hroom, ?_, World.there_setCells hthere _ _ _⟩, hgr, Or.inl rfl⟩⟩
      have r1 := World.rangeAt_setCells_apart hrange g bs.length (bcells nb) (Or.inr (Or.inl (by rw [bcells_length]; omega)))
      have r2 := World.rangeAt_setCells_same w g bs.length (bcells nb) (fun j hj => by
        rw [bcells_length] at hj
        have := hthere (bs.length + j) (by omega)
        rwa [Nat.zero_add] at this)
      intro j u hu
      rw [bcells_append] at hu
      by_cases hj : j < (bcells bs).length
      · rw [List.getElem?_append_left hj] at hu
        exact r1 j u hu
      · rw [List.getElem?_append_right (by omega)] at hu
        have := r2 _ u hu
        rw [bcells_length] at this hj
        rw [show 0 + j = bs.length + (j - bs.length) by omega]; exact this
    · exact fresh _ cap (by omega) rfl (by
        rw [hz1]
        refine run_firstCells_some w.drew 1 _ _ _ _ _ (by simp [bcells_length]) (fun j u hu => ?_)
        have := hrange j u hu
        rw [Addr.add_mid]
        simpa using this)

/-- The operation, for the walk. -/
theorem wpList_append_any {w : World} {ops : Array Oper} {rest : List Oper} {o : Oper} {a : Act} {Q : Exit → Act → World → Prop} (hgd : o.guard = none) (s x : Operand) (tx : TypeId)
    (ho : o.op = .call { callee := .builtin .append, args := #[s, x], argTypes := #[26, tx] }) (B : Nat) (v : Value) (bs nb : List UInt8) (hs : a.eval s = v) (hown : Own B w v bs) (xv : Value) (hx : a.eval x = xv)
    (hsrc : Src Try.prog 1 tx xv nb.length (bcells nb) w) (hbd : bs.length + nb.length ≤ 16777216) (hB : B ≤ w.heap.size)
    (h : ∀ v' w', Grew B w w' v v' (bs ++ nb) → wpList Try.prog ops Q rest (a.put o.dst v') w') : wpList Try.prog ops Q (o :: rest) a w := by
  refine wpList_plain hgd fun K hK => ?_
  obtain ⟨v', w', hr, hg⟩ := append_own B w tx o.type v bs nb hown xv hsrc hbd hB
  unfold Oper.wp execOp
  simp only [ho, resolve, invoke, builtin, Sem.run_bind, Sem.run_pure, Result.andThen_ok, List.map_toArray, List.map_cons, List.map_nil, hs, hx, hr]
  exact hK _ _ (h v' w' hg)

theorem fold_push (l : List Int) : ∀ (r : ByteArray), (l.foldl (fun r n => r.push (UInt8.ofNat n.toNat)) r) = ⟨(r.data.toList ++ l.map fun n => UInt8.ofNat n.toNat).toArray⟩ := by
  induction l with
  | nil => intro r; simp
  | cons n l ih =>
    intro r
    rw [List.foldl_cons, ih]
    simp [ByteArray.push]

/-- 'string(b)' -/
theorem string_own (B : Nat) (w : World) (v : Value) (bs : List UInt8) (h : Own B w v bs) : (convert 26 9 v).run Try.prog w = .ok (.string ⟨bs.toArray⟩) w := by
  rcases h with ⟨rfl, rfl⟩ | ⟨g, cap, rfl, _, _, _, hr, _⟩
  · rw [run_convert_bytes_string w 26 9 5 _ _ _ Try.underlying26 Try.underlying5 Try.underlying9]
    rfl
  · rw [run_convert_bytes_string w 26 9 5 _ _ _ Try.underlying26 Try.underlying5 Try.underlying9]
    have hl := run_loadCells_list (P := Try.prog) w ⟨g, 0, none⟩ (bcells bs) (fun j u hu => by rw [Addr.add_mid]; exact hr j u hu)
    rw [bcells_length] at hl
    have e : bcells bs = (bs.map fun b => (b.toNat : Int)).map (Value.int .u8) := by simp [bcells]
    rw [e] at hl
    have id' : ((fun n : Int => UInt8.ofNat n.toNat) ∘ fun b : UInt8 => (b.toNat : Int)) = id := by funext b; simp
    rw [run_bytesToString w _ _ _ _ hl, fold_push]
    simp [id']

end Go.Proofs.Qxb6609329a
