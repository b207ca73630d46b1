import Derived.Test.Qxb6609224aRlSetup
import Derived.ChangeMaps4
namespace Go.Proofs.Qxb6609224a.Rl
open Go.RowKit
open Go.ChangeMaps (setBlock)

theorem findNow_none (id : Int) : ∀ (l : List MapEntry) (ks : List Int) (i : Nat), l.map (·.key) = ks.map (Value.int .i64) → id ∉ ks → Instr.findNow (.int .i64) (.int .i64 id) l i = some none := by
  intro l
  induction l with
  | nil => intro ks i _ _; rfl
  | cons e l ih =>
    intro ks i hk hn
    cases ks with
    | nil => simp at hk
    | cons k ks =>
      simp only [List.map_cons, List.cons.injEq] at hk
      simp only [List.mem_cons, not_or] at hn
      unfold Instr.findNow
      have : Instr.sameNow (.int .i64) (.int .i64 id) e.key = some false := by
        rw [hk.1]; simp [Instr.sameNow, hn.1]
      rw [this]
      exact ih ks (i + 1) hk.2 hn.2

theorem findNow_some (id : Int) : ∀ (l : List MapEntry) (ks : List Int) (i j : Nat), l.map (·.key) = ks.map (Value.int .i64) → ks.Nodup → ks[j]? = some id → ∃ v, (l[j]?).map (·.val) = some v ∧ Instr.findNow (.int .i64) (.int .i64 id) l i = some (some (i + j, v)) := by
  intro l
  induction l with
  | nil => intro ks i j hk _ hj; cases ks with
    | nil => simp at hj
    | cons k ks => simp at hk
  | cons e l ih =>
    intro ks i j hk hd hj
    cases ks with
    | nil => simp at hk
    | cons k ks =>
      simp only [List.map_cons, List.cons.injEq] at hk
      rw [List.nodup_cons] at hd
      unfold Instr.findNow
      cases j with
      | zero =>
        simp at hj
        have : Instr.sameNow (.int .i64) (.int .i64 id) e.key = some true := by
          rw [hk.1]; simp [Instr.sameNow, hj]
        rw [this]
        exact ⟨e.val, by simp, by simp⟩
      | succ j =>
        simp only [List.getElem?_cons_succ] at hj
        have hne : id ≠ k := by
          intro h; subst h
          exact hd.1 (List.mem_iff_getElem?.2 ⟨j, hj⟩)
        have : Instr.sameNow (.int .i64) (.int .i64 id) e.key = some false := by
          rw [hk.1]; simp [Instr.sameNow, hne]
        rw [this]
        obtain ⟨v, h1, h2⟩ := ih ks (i + 1) j hk.2 hd.2 hj
        exact ⟨v, by simpa using h1, by rw [h2]; simp; omega⟩

theorem check2 (w : World) (e : Bool) (id : Int) : (Instr.checkKey e 10000 2 (.int .i64 id)).run Try.prog w = .ok () w := MapKept.run_checkKey (k := .int .i64 id) Try.underlying2 (by simp [MapKept.IsKey]) e 9999

/-- 'r.blocks[id] = place': a key that is new. -/
theorem run_place (w : World) (mb : Nat) (es : Array MapEntry) (clock : Nat) (ks : List Int) (id : Int) (v : Value) (hm : w.heap[mb]? = some (.map es clock)) (hk : Keys es ks) (hn : id ∉ ks) :
    (Instr.mapUpdate 77 (.map (some mb)) (.int .i64 id) v).run Try.prog w = .ok () (setBlock w mb (.map (es.push { key := .int .i64 id, val := v, born := clock }) (clock + 1))) := by
  have hf := MapKept.run_findKey (P := Try.prog) (w := w) (kt := 2) Try.underlying2 (findNow_none id es.toList ks 0 hk.1 hn)
  simp [Instr.mapUpdate, run_underlying Try.underlying77, MapKept.run_getObj_map hm, check2, hf, MapKept.run_setObj_map _ hm, Result.andThen, setBlock]

/-- '_, ok := r.blocks[id]' -/
theorem run_has (w : World) (mb : Nat) (es : Array MapEntry) (clock : Nat) (ks : List Int) (id : Int) (hm : w.heap[mb]? = some (.map es clock)) (hk : Keys es ks) (hd : ks.Nodup) :
    ∃ x y, (Instr.lookup 77 (.map (some mb)) (.int .i64 id) true).run Try.prog w = .ok (.tuple #[.agg #[.pointer x, .int .i64 y], .bool (decide (id ∈ ks))]) w := by
  by_cases hin : id ∈ ks
  · obtain ⟨j, hj⟩ := List.mem_iff_getElem?.1 hin
    obtain ⟨v, h1, h2⟩ := findNow_some id es.toList ks 0 j hk.1 hd hj
    have hf := MapKept.run_findKey (P := Try.prog) (w := w) (kt := 2) Try.underlying2 h2
    obtain ⟨e, he, rfl⟩ := Option.map_eq_some_iff.1 h1
    obtain ⟨x, y, hv⟩ := hk.2 e (List.mem_iff_getElem?.2 ⟨j, he⟩)
    refine ⟨x, y, ?_⟩
    rw [hv] at hf
    simp [Instr.lookup, run_underlying Try.underlying77, MapKept.run_getObj_map hm, check2, hf, Result.andThen, hin]
  · have hf := MapKept.run_findKey (P := Try.prog) (w := w) (kt := 2) Try.underlying2 (findNow_none id es.toList ks 0 hk.1 hin)
    have hz : (zeroValue 88).run Try.prog w = .ok (.agg #[.pointer none, .int .i64 0]) w := by kernel_rfl
    refine ⟨none, 0, ?_⟩
    simp [Instr.lookup, run_underlying Try.underlying77, MapKept.run_getObj_map hm, check2, hf, hz, Result.andThen, hin]

/-- 'delete(r.blocks, id)', the key the last one. -/
theorem run_del (w : World) (ty : TypeId) (mb : Nat) (es : Array MapEntry) (clock : Nat) (ks : List Int) (id : Int) (hm : w.heap[mb]? = some (.map es clock)) (hk : Keys es (ks ++ [id])) (hd : (ks ++ [id]).Nodup) :
    ∃ es', (Builtin.delete_ #[77, 2] ty #[.map (some mb), .int .i64 id]).run Try.prog w = .ok (.tuple #[]) (setBlock w mb (.map es' clock)) ∧ Keys es' ks := by
  obtain ⟨v, h1, h2⟩ := findNow_some id es.toList (ks ++ [id]) 0 ks.length hk.1 hd (by simp)
  have hf := MapKept.run_findKey (P := Try.prog) (w := w) (kt := 2) Try.underlying2 h2
  have hlen : es.size = ks.length + 1 := by
    have := congrArg List.length hk.1
    simpa using this
  refine ⟨es.eraseIdxIfInBounds ks.length, ?_, ?_, ?_⟩
  · simp [Builtin.delete_, run_underlying Try.underlying77, MapKept.run_getObj_map hm, check2, hf, MapKept.run_setObj_map _ hm, Result.andThen, setBlock]
  · have e : (es.eraseIdxIfInBounds ks.length).toList = es.toList.eraseIdx ks.length := by
      simp
    rw [e, ChangeMaps.map_eraseIdx, hk.1]
    simp [List.eraseIdx_append_of_length_le]
  · intro x hx
    have : x ∈ es.toList := by
      have e : (es.eraseIdxIfInBounds ks.length).toList = es.toList.eraseIdx ks.length := by simp
      rw [e] at hx
      exact List.mem_of_mem_eraseIdx hx
    exact hk.2 x this

theorem setBlock_at (w : World) (b : Nat) (o o' : Obj) (h : w.heap[b]? = some o') : (setBlock w b o).heap[b]? = some o := by
  have hlt : b < w.heap.size := (Array.getElem?_eq_some_iff.1 h).1
  simp [setBlock, hlt]
theorem setBlock_far (w : World) (b : Nat) (o : Obj) (k : Nat) (h : k ≠ b) : (setBlock w b o).heap[k]? = w.heap[k]? := by
  simp [setBlock, Ne.symm h]

/-- The map turns. -/
theorem At.newM {B : Nat} {w : World} {rb pb mb : Nat} {d : Dat} {LV SV BV TV : Value} (hA : At B w rb pb mb d LV SV BV TV) (es : Array MapEntry) (clock : Nat) (ks : List Int) (hk : Keys es ks) : At B (setBlock w mb (.map es clock)) rb pb mb { d with keys := ks } LV SV BV TV := by
  obtain ⟨n1, n2, n3, nl, ns, nb, nt, nbo, nto⟩ := hA.p_ne
  obtain ⟨es0, c0, m0, _⟩ := hA.m
  exact ⟨(setBlock_far _ _ _ _ (Ne.symm n3)).trans hA.r, (setBlock_far _ _ _ _ (Ne.symm n2)).trans hA.p, ⟨es, clock, setBlock_at _ _ _ _ m0, hk⟩, own_keep hA.l (fun k h => setBlock_far _ _ _ _ (nl k h).2.2), own_keep hA.s (fun k h => setBlock_far _ _ _ _ (ns k h).2.2),
    own_keep hA.b (fun k h => setBlock_far _ _ _ _ (nb k h).2.2), own_keep hA.t (fun k h => setBlock_far _ _ _ _ (nt k h).2.2), hA.ls, hA.Br, hA.Bp, hA.Bm⟩

theorem Fr.setBlock {w w1 : World} {F : Nat → Prop} (h : Fr w w1 F) (b : Nat) (o : Obj) (hb : F b) : Fr w (setBlock w1 b o) F :=
  ⟨h.os, h.tape, h.output, by have := h.size; simp [ChangeMaps.setBlock]; omega, fun k hk hF => (setBlock_far w1 b o k (fun e => hF (by rw [e]; exact hb))).trans (h.block k hk hF)⟩

set_option maxHeartbeats 400000 in
theorem placeBlock (B : Nat) (w : World) (rb pb mb : Nat) (d : Dat) (F : Nat → Prop) (id ix : Int) (x : Option Addr) (h : St B w rb pb mb d F) (hn : id ∉ d.keys) :
    Calls Try.prog 14 #[.pointer (some ⟨rb, 0, none⟩), .int .i64 id, .pointer x, .int .i64 ix] w fun e w' => e = .returned (.tuple #[]) ∧ St B w' rb pb mb { d with keys := d.keys ++ [id] } (grow F w w') ∧ Fr w w' F := by
  obtain ⟨LV, SV, BV, TV, hA, hf⟩ := h
  obtain ⟨_, _, r2, _⟩ := hA.rc
  obtain ⟨es, clock, m, hm⟩ := hA.m
  have hrun := run_place w mb es clock d.keys id (.agg #[.pointer x, .int .i64 ix]) m hm hn
  have hk : Keys (es.push { key := .int .i64 id, val := .agg #[.pointer x, .int .i64 ix], born := clock }) (d.keys ++ [id]) := by
    refine ⟨by simp [hm.1], ?_⟩
    intro e he
    simp at he
    rcases he with he | rfl
    · exact hm.2 e (by simpa using he)
    · exact ⟨x, ix, rfl⟩
  have HN : Hid (At B (setBlock w mb (.map (es.push { key := .int .i64 id, val := .agg #[.pointer x, .int .i64 ix], born := clock }) (clock + 1))) rb pb mb { d with keys := d.keys ++ [id] } LV SV BV TV) := hA.newM _ _ _ hk
  clear hA m hm hk hn
  go_enter Try.func14, Try.ntmps14
  go_wp2
  go_end0
  exact ⟨rfl, ⟨_, _, _, _, HN.out, fun b hb => Or.inl (hf b hb)⟩, (Fr.refl w F).setBlock mb _ (hf mb (Or.inr (Or.inr (Or.inl rfl))))⟩
end Go.Proofs.Qxb6609224a.Rl
