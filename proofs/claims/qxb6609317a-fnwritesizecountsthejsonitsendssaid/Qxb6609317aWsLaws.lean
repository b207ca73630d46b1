import Derived.Test.Qxb6609317aWsBytes
import Derived.Test.Qxb6609317aWsWrite
import Derived.Laws.CopyOwn
import Derived.Laws.AppendOwnNone
import Derived.WalkSpells
namespace Go.Proofs.Qxb6609317a
open Go.RowKit

theorem info5 : (Try.prog.info? 5).map (fun i => (i.zero, i.size, i.bytes)) = some (some (.int .u8 0), 1, 1) := by kernel_rfl

/-- A slice of bytes that came in: nil, or an address with that many readable bytes. -/
def Bytes (w : World) (a : Option Addr) (len cap : Nat) (zs : List Int) : Prop :=
  (a = none → len = 0 ∧ cap = 0) ∧ zs.length = len ∧ ∀ y, a = some y → ∀ i, i < len → w.cell? (y.add i) = some (.int .u8 (zs.getD i 0)) ∧ y.block < w.heap.size

def evens (L : Nat → Nat) : Nat → Nat | 0 => 0 | n + 1 => evens L n + L (2 * n)
def odds (L : Nat → Nat) : Nat → Nat | 0 => 0 | n + 1 => odds L n + L (2 * n + 1)
theorem sums_split (L : Nat → Nat) (n : Nat) : sums L n = evens L n + odds L n := by
  induction n with
  | zero => rfl
  | succ n ih => simp only [sums, evens, odds, ih]; omega
theorem evens_mono (L : Nat → Nat) (k n : Nat) (h : k ≤ n) : evens L k ≤ evens L n := by
  induction n with
  | zero => obtain rfl : k = 0 := by omega
            exact Nat.le_refl _
  | succ n ih =>
    by_cases e : k = n + 1
    · subst e; exact Nat.le_refl _
    · have := ih (by omega)
      simp only [evens]; omega
theorem odds_mono (L : Nat → Nat) (k n : Nat) (h : k ≤ n) : odds L k ≤ odds L n := by
  induction n with
  | zero => obtain rfl : k = 0 := by omega
            exact Nat.le_refl _
  | succ n ih =>
    by_cases e : k = n + 1
    · subst e; exact Nat.le_refl _
    · have := ih (by omega)
      simp only [odds]; omega

/-- 'copy(zzc, payload)', zzc just made of payload's length. -/
theorem copy_run (w : World) (x : Addr) (pl pc : Nat) (pz : List Int) (h : Bytes w (some x) pl pc pz) :
    ∃ w2, (∀ ty, (Builtin.copy_ #[32, 32] ty #[.slice (some ⟨w.heap.size, 0, none⟩) pl pl, .slice (some x) pl pc]).run Try.prog (w.alloc (.cells (madeCells #[.int .u8 0] pl) 5)) = .ok (.int .i64 pl) w2) ∧ Below w.heap.size w w2 := by
  obtain ⟨-, hz, hc⟩ := h
  by_cases h0 : pl = 0
  · subst h0
    exact ⟨_, fun ty => run_copy_none (P := Try.prog) _ 32 32 ty 5 _ _ _ _ _ _ Try.underlying32 (by kernel_rfl) (by simp), (Below.refl _ _).alloc (Nat.le_refl _) _⟩
  · have hl : (pz.map (Value.int .u8)).length = pl := by simpa using hz
    refine ⟨_, fun ty => (run_copy_row (P := Try.prog) (w.alloc (.cells (madeCells #[.int .u8 0] pl) 5)) 32 32 ty 5 w.heap.size 0 pl pl x pl pc (madeCells #[.int .u8 0] pl) 5 (pz.map (Value.int .u8)) Try.underlying32 (by kernel_rfl) (heap_alloc_new _ _) (by rw [hl]; simp) ?_ (by rw [hl, size_madeCells]; omega) (by simp [Value.oneCell'])).trans (by rw [hl]; rfl), ?_⟩
    · intro j v hv
      have hj : j < pl := by
        have := (List.getElem?_eq_some_iff.1 hv).1
        omega
      obtain ⟨hcell, hblk⟩ := hc x rfl j hj
      have e : v = .int .u8 (pz.getD j 0) := by
        simp only [List.getElem?_map] at hv
        have : pz[j]? = some (pz.getD j 0) := by
          rw [List.getElem?_eq_getElem (by omega)]; simp [List.getD, List.getElem?_eq_getElem (show j < pz.length by omega)]
        rw [this] at hv
        simpa using hv.symm
      rw [e, ← hcell]
      exact Below.cell ((Below.refl w.heap.size w).alloc (Nat.le_refl _) _) (by unfold Addr.add; split <;> exact hblk)
    · exact below_setRow ((Below.refl _ _).alloc (Nat.le_refl _) _) (Nat.le_refl _) _

theorem Addr.add_block (a : Addr) (i : Nat) : (a.add i).block = a.block := by unfold Addr.add; split <;> rfl

theorem Bytes.below {B : Nat} {w w' : World} {a : Option Addr} {len cap : Nat} {zs : List Int} (h : Bytes w a len cap zs) (hb : Below B w w') (hB : B = w.heap.size) : Bytes w' a len cap zs := by
  obtain ⟨h1, h2, h3⟩ := h
  refine ⟨h1, h2, fun y hy i hi => ?_⟩
  obtain ⟨hc, hlt⟩ := h3 y hy i hi
  exact ⟨(hb.cell (by rw [Addr.add_block]; omega)).trans hc, Nat.lt_of_lt_of_le hlt hb.size⟩

/-- 'all = append(all, x...)', x a slice of bytes that came in, nil or not. -/
theorem append_bytes {w : World} {ops : Array Oper} {rest : List Oper} {o : Oper} {a : Act} {Q : Exit → Act → World → Prop} (hgd : o.guard = none) (s x : Operand)
    (ho : o.op = .call { callee := .builtin .append, args := #[s, x], argTypes := #[32, 32] }) (base : Nat)
    (v : Value) (n : Nat) (xs : List Value) (hs : a.eval s = v) (hown : w.ownsRow base 5 1 v n xs) (sa : Option Addr) (m c : Nat) (hx : a.eval x = .slice sa m c) (zs : List Int) (hz : Bytes w sa m c zs)
    (hnm : n + m ≤ 2097152) (hbase : base ≤ w.heap.size)
    (h : ∀ v' w' xs', w'.ownsRow base 5 1 v' (n + m) xs' → Below base w w' → wpList Try.prog ops Q rest (a.put o.dst v') w') : wpList Try.prog ops Q (o :: rest) a w := by
  obtain ⟨i0, hi, hz0, hz1, hz2⟩ := info_parts info5
  obtain ⟨q1, q2, q3⟩ := hz
  cases sa with
  | none =>
    obtain ⟨rfl, rfl⟩ := q1 rfl
    exact wpList_append_own_none hgd s x 32 ho base 5 i0 1 Try.underlying32 hi v n xs hs hown hx (h v w xs hown (Below.refl _ _))
  | some y =>
    refine wpList_append_own w hgd s x 32 ho base 5 i0 (.int .u8 0) 1 1 Try.underlying32 hi hz0 hz1 hz2 rfl (by decide) v n xs hs hown y m c (zs.map (Value.int .u8)) hx (by simpa using q2) ?_ ?_ (by unfold maxLen; omega) (by omega) hbase ?_
    · intro j u hu
      have hj : j < m := by
        have := (List.getElem?_eq_some_iff.1 hu).1
        simp at this; omega
      rw [(q3 y rfl j hj).1, ← hu]
      simp [List.getD, List.getElem?_eq_getElem (show j < zs.length by omega)]
    · simp [Value.oneCell']
    · intro v' w' h1 h2 _
      exact h v' w' _ h1 ((Below.refl _ _).grown h2 hbase (fun k hk => (hown.lt k hk).1))

theorem owns_len {w : World} {base : Nat} {e : TypeId} {v : Value} {n : Nat} {xs : List Value} (h : w.ownsRow base e 1 v n xs) : ∃ a c, v = .slice a n c := by
  rcases h.2 with ⟨rfl, rfl⟩ | ⟨g, cap, cur, rfl, _⟩
  · exact ⟨none, 0, rfl⟩
  · exact ⟨_, _, rfl⟩

end Go.Proofs.Qxb6609317a
