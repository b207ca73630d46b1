import Derived.Test.Qxb6609317aWsLaws
import Derived.ProofKit
import Derived.OpenShut
import Derived.Deep.Slices
namespace Go.Proofs.Qxb6609317a
open Go.ChangeShapes Go.WideShapes Go.ChangeAt Go.RowKit

section
variable {H : Type} {enc : TypeId × Value → H} {W : World}

theorem block_lt {w : World} {a : Addr} {v : Value} (h : w.cell? a = some v) : a.block < w.heap.size := by
  unfold World.cell? at h
  by_cases hl : a.block < w.heap.size
  · exact hl
  · simp [Array.getElem?_eq_none (show w.heap.size ≤ a.block by omega)] at h

/-- A slice of bytes that was read. -/
theorem bytes_of {fuel : Nat} {c : Value} {x : DataW H × List MemPlace} (h : DataW.trod enc Try.prog W 0 (fun _ => true) true fuel 32 [c] = some x) :
    ∃ (a : Option Addr) (l cp : Nat) (zs : List Int), c = .slice a l cp ∧ l ≤ maxLen ∧ Bytes W a l cp zs := by
  rcases open_ints Try.underlying32 Try.underlying5 (by kernel_rfl) h with ⟨hcs, _⟩ | ⟨x, l, cp, zs, hcs, _, hl, hm, hz, _, hcell, hwz⟩
  · simp at hcs
    exact ⟨none, 0, 0, [], hcs, Nat.zero_le _, ⟨fun _ => ⟨rfl, rfl⟩, rfl, fun y hy => by cases hy⟩⟩
  · simp at hcs hz
    refine ⟨some x, l, cp, zs.take l, hcs, Nat.le_trans hl hm, ⟨(fun h => by cases h), (by simp; omega), ?_⟩⟩
    intro y hy i hi
    cases hy
    have := hcell i (by omega)
    refine ⟨?_, by have := block_lt this; rwa [Addr.add_block] at this⟩
    rw [this]
    simp [List.getD, hi]

theorem subs_of {fuel : Nat} {a : Option Addr} {len cap : Nat} {x : DataW H × List MemPlace} (h : DataW.trod enc Try.prog W 0 (fun _ => true) true fuel 33 [.slice a len cap] = some x) :
    len ≤ maxLen ∧ ∃ (b off : Nat) (A : Nat → Option Addr) (L C : Nat → Nat) (Z : Nat → List Int), (0 < len → a = some ⟨b, off, none⟩) ∧ (0 < len → b < W.heap.size) ∧ (∀ i, L i ≤ maxLen) ∧
      (∀ i, i < len → W.cell? ⟨b, off + i * 2, none⟩ = some (.slice (A (2 * i)) (L (2 * i)) (C (2 * i))) ∧ W.cell? ⟨b, off + i * 2 + 1, none⟩ = some (.slice (A (2 * i + 1)) (L (2 * i + 1)) (C (2 * i + 1)))) ∧
      ∀ j, j < 2 * len → Bytes W (A j) (L j) (C j) (Z j) := by
  have c35 : Try.prog.cellsOf 35 = 2 := by kernel_rfl
  have c32 : Try.prog.cellsOf 32 = 1 := by kernel_rfl
  rcases Deep.open_slice Try.underlying33 h with ⟨hcs, _⟩ | ⟨y, l, cp, m, n, D, Pl, hcs, _, hl, hm, hmm, _, hx⟩
  · simp at hcs
    obtain ⟨rfl, rfl, rfl⟩ := hcs
    exact ⟨Nat.zero_le _, 0, 0, fun _ => none, fun _ => 0, fun _ => 0, fun _ => [], fun h => by omega, fun h => by omega, fun _ => Nat.zero_le _, fun i hi => by omega, fun j hj => by omega⟩
  · simp at hcs hmm
    obtain ⟨rfl, rfl, rfl⟩ := hcs
    subst hmm
    refine ⟨Nat.le_trans hl hm, ?_⟩
    by_cases h0 : len = 0
    · subst h0
      exact ⟨0, 0, fun _ => none, fun _ => 0, fun _ => 0, fun _ => [], fun h => by omega, fun h => by omega, fun _ => Nat.zero_le _, fun i hi => by omega, fun j hj => by omega⟩
    rw [c35] at hx
    have key : ∀ j, j < 2 * len → ∃ q : Option Addr × Nat × Nat × List Int, W.cell? (y.add j) = some (.slice q.1 q.2.1 q.2.2.1) ∧ q.2.1 ≤ maxLen ∧ Bytes W q.1 q.2.1 q.2.2.1 q.2.2.2 := by
      intro j hj
      obtain ⟨cs, h1, h2⟩ := hx (j / 2) (by omega)
      obtain ⟨_, hlen, hcell⟩ := World.cells?_some h1
      obtain ⟨xs, mm, rfl, _, _, hxs, hel⟩ := DataW.trod_array Try.underlying35 h2
      have e := hel (j % 2) (by omega)
      have hc := hcell (j % 2) (by omega)
      rw [c32] at e
      match cs, hlen with
      | [u0, u1], _ =>
        have hd : ((([u0, u1] : List Value).drop (j % 2 * 1)).take 1) = [(if j % 2 = 0 then u0 else u1)] := by
          rcases (show j % 2 = 0 ∨ j % 2 = 1 by omega) with h' | h' <;> simp [h']
        rw [hd, List.getElem?_eq_getElem (by omega)] at e
        obtain ⟨a', l', c', zs, hv, hle, hb⟩ := bytes_of e
        refine ⟨(a', l', c', zs), ?_, hle, hb⟩
        show W.cell? (y.add j) = some (.slice a' l' c')
        rw [← hv, show y.add j = (y.add (j / 2 * 2)).add (j % 2) by rw [Deep.add_add]; congr 1; omega, hc]
        rcases (show j % 2 = 0 ∨ j % 2 = 1 by omega) with h' | h' <;> simp [h']
    obtain ⟨f, hf⟩ := Deep.choose_lt key
    have hspot : ∃ b off, y = ⟨b, off, none⟩ := by
      obtain ⟨b, off, spot⟩ := y
      have : spot = none := by simpa [Addr.add] using World.cell?_spot (hf 0 (by omega)).1
      exact ⟨b, off, by rw [this]⟩
    obtain ⟨b, off, rfl⟩ := hspot
    have cl : ∀ j, j < 2 * len → W.cell? ⟨b, off + j, none⟩ = some (.slice (f j).1 (f j).2.1 (f j).2.2.1) := fun j hj => by
      rw [← add_plain]; exact (hf j hj).1
    refine ⟨b, off, fun j => (f j).1, fun j => if j < 2 * len then (f j).2.1 else 0, fun j => (f j).2.2.1, fun j => (f j).2.2.2, fun _ => rfl, fun _ => block_lt (cl 0 (by omega)), fun i => ?_, fun i hi => ?_, fun j hj => ?_⟩
    · show (if i < 2 * len then (f i).2.1 else 0) ≤ maxLen
      split
      · exact (hf i ‹_›).2.1
      · exact Nat.zero_le _
    · have e0 := cl (2 * i) (by omega)
      have e1 := cl (2 * i + 1) (by omega)
      simp only [show 2 * i < 2 * len by omega, show 2 * i + 1 < 2 * len by omega, if_true]
      rw [show off + i * 2 = off + 2 * i by omega, show off + 2 * i + 1 = off + (2 * i + 1) by omega]
      exact ⟨e0, e1⟩
    · simp only [hj, if_true]
      exact (hf j hj).2.2
end
end Go.Proofs.Qxb6609317a
