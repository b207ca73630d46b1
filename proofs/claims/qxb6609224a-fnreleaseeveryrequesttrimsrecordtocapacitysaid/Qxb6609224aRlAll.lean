import Derived.Test.Qxb6609224aRlMain
import Derived.Test.Qxb6609224aRlEarly
import Derived.OpenShut
namespace Go.Proofs.Qxb6609224a.Rl
open Go.RowKit

def IsRow (k : IntKind) (w : World) (a : Option Addr) (len cap : Nat) (zs : List Int) : Prop :=
  (a = none ∧ len = 0 ∧ cap = 0 ∧ zs = []) ∨
  ∃ x, a = some x ∧ len ≤ cap ∧ cap ≤ maxLen ∧ zs.length = cap ∧ (∀ i, i < zs.length → w.cell? (x.add i) = some (.int k (zs.getD i 0))) ∧ ∀ n ∈ zs, (Lit.int k n).wf = true

theorem IsRow.le {k : IntKind} {w : World} {a : Option Addr} {len cap : Nat} {zs : List Int} (h : IsRow k w a len cap zs) : len ≤ maxLen := by
  rcases h with ⟨_, h, _⟩ | ⟨x, _, h1, h2, _⟩
  · rw [h]; exact Nat.zero_le _
  · omega

theorem take_getD (zs : List Int) (n j : Nat) (h : j < n) : (zs.take n).getD j 0 = zs.getD j 0 := by
  rw [List.getD_eq_getElem?_getD, List.getD_eq_getElem?_getD, List.getElem?_take_of_lt h]

theorem IsRow.form {w : World} {a : Option Addr} {len cap : Nat} {zs : List Int} (h : IsRow .i64 w a len cap zs) (hl : 1 ≤ len) :
    ∃ b o, a = some ⟨b, o, none⟩ ∧ (zs.take len).length = len ∧ (∀ j, j < len → w.cell? ⟨b, o + j, none⟩ = some (.int .i64 ((zs.take len).getD j 0))) ∧ ∀ j, j < len → (zs.take len).getD j 0 ≤ 9223372036854775807 := by
  rcases h with ⟨_, h, _⟩ | ⟨⟨b, o, spot⟩, rfl, h1, h2, h3, hc, hw⟩
  · omega
  · have hsp : spot = none := by simpa [Addr.add] using World.cell?_spot (hc 0 (by omega))
    subst hsp
    refine ⟨b, o, rfl, by rw [List.length_take]; omega, fun j hj => ?_, fun j hj => ?_⟩
    · rw [take_getD _ _ _ hj]
      have := hc j (by omega)
      rw [Addr.add_lit] at this
      exact this
    · rw [take_getD _ _ _ hj]
      exact (bounds_i64 (hw _ (getD_mem zs j (by omega)))).2

theorem rel_all (x y : Int) (a2 : Option Addr) (n2 c2 : Nat) (z2 : List Int) (a3 : Option Addr) (n3 c3 : Nat) (z3 : List Int) (a4 : Option Addr) (n4 c4 : Nat) (z4 : List Int) (w : World) (h2 : IsRow .i64 w a2 n2 c2 z2) (h3 : IsRow .i64 w a3 n3 c3 z3) (h4 : IsRow .i64 w a4 n4 c4 z4) :
    Calls Try.prog 3 #[.int .i64 x, .int .u64 y, .slice a2 n2 c2, .slice a3 n3 c3, .slice a4 n4 c4] w fun e w' => e = .returned (.bool true) ∧ Below w.heap.size w w' := by
  by_cases hL : Lens n2 n3 n4
  · obtain ⟨e1, e2, e3, e4, e5, e6⟩ := hL
    subst e1
    obtain ⟨bI, oI, rfl, l2, k2, _⟩ := h2.form e2
    obtain ⟨bE, oE, rfl, l3, k3, r3⟩ := h3.form e2
    obtain ⟨bL, oL, rfl, l4, k4, _⟩ := h4.form e4
    refine main_good x y bI oI c2 bE oE c3 bL oL c4 n2 n4 (z2.take n2) (z3.take n2) (z4.take n4) w l2 l3 l4 e2 e3 e4 e5 e6 k2 k3 k4 r3 ?_
    intro v u
    have := zzBytes v u (some ⟨bI, oI, none⟩) (some ⟨bE, oE, none⟩) (some ⟨bL, oL, none⟩) n2 c2 n2 c3 n4 c4 w h2.le h3.le h4.le
    rw [decide_eq_true (show n2 + n2 + n4 ≤ 1048576 by omega)] at this
    exact this
  · refine (early x y a2 a3 a4 n2 c2 n3 c3 n4 c4 w h2.le h3.le h4.le hL).mono ?_
    rintro e w' ⟨rfl, rfl⟩
    exact ⟨rfl, Below.refl _ _⟩
end Go.Proofs.Qxb6609224a.Rl
