import Derived.Test.Qxb6609224aRlPlain
namespace Go.Proofs.Qxb6609224a.Rl
open Go.RowKit

/-- The record and its path lie in blocks that are new since w; none of them is one of 'ex'. -/
def Owns (w wx : World) (rb pb mb : Nat) (d : Dat) (ex : Nat → Prop) : Prop := ∃ F : Nat → Prop, St w.heap.size wx rb pb mb d F ∧ ∀ b, F b → w.heap.size ≤ b ∧ b < wx.heap.size ∧ ¬ ex b

/-- What a contract leaves behind it. -/
theorem Owns.next {w wx w' : World} {rb pb mb : Nat} {d' : Dat} {ex : Nat → Prop} {F : Nat → Prop} (hF : ∀ b, F b → w.heap.size ≤ b ∧ b < wx.heap.size ∧ ¬ ex b) (hw : w.heap.size ≤ wx.heap.size) (hex : ∀ b, ex b → b < wx.heap.size)
    (hs : St w.heap.size w' rb pb mb d' (grow F wx w')) (hf : Fr wx w' F) (hb : Below w.heap.size w wx) :
    Owns w w' rb pb mb d' ex ∧ Below w.heap.size w w' ∧ (∀ b, ex b → w'.heap[b]? = wx.heap[b]?) ∧ wx.heap.size ≤ w'.heap.size := by
  refine ⟨⟨_, hs, fun b h => ?_⟩, ?_, fun b h => ?_, hf.size⟩
  · rcases h with h | h
    · have := hF b h
      have := hf.size
      exact ⟨by omega, by omega, (hF b h).2.2⟩
    · refine ⟨by omega, h.2, fun he => ?_⟩
      have := hex b he
      omega
  · exact ⟨hf.os.trans hb.os, hf.tape.trans hb.tape, hf.output.trans hb.output, Nat.le_trans hb.size hf.size, fun b h => (hf.block b (by omega) (fun hF' => by have := hF b hF'; omega)).trans (hb.block b h)⟩
  · exact hf.block b (hex b h) (fun hF' => (hF b hF').2.2 h)

/-- The world turns elsewhere. -/
theorem Owns.keep {w wx w' : World} {rb pb mb : Nat} {d : Dat} {ex : Nat → Prop} (h : Owns w wx rb pb mb d ex) (hs : wx.heap.size ≤ w'.heap.size) (hk : ∀ b, b < wx.heap.size → ¬ ex b → w'.heap[b]? = wx.heap[b]?) : Owns w w' rb pb mb d ex := by
  obtain ⟨F, h1, h2⟩ := h
  exact ⟨F, h1.keep (fun b hb hF => hk b hb (h2 b hF).2.2), fun b hb => ⟨(h2 b hb).1, Nat.lt_of_lt_of_le (h2 b hb).2.1 hs, (h2 b hb).2.2⟩⟩

/-- One block more is another's: one that is new. -/
theorem Owns.more {w wx w' : World} {rb pb mb : Nat} {d : Dat} {ex ex' : Nat → Prop} (h : Owns w wx rb pb mb d ex) (hs : wx.heap.size ≤ w'.heap.size) (hk : ∀ b, b < wx.heap.size → w'.heap[b]? = wx.heap[b]?) (hex : ∀ b, ex' b → ex b ∨ wx.heap.size ≤ b) : Owns w w' rb pb mb d ex' := by
  obtain ⟨F, h1, h2⟩ := h
  refine ⟨F, h1.keep (fun b hb _ => hk b hb), fun b hb => ⟨(h2 b hb).1, Nat.lt_of_lt_of_le (h2 b hb).2.1 hs, fun he => ?_⟩⟩
  rcases hex b he with h | h
  · exact (h2 b hb).2.2 h
  · have := (h2 b hb).2.1; omega
end Go.Proofs.Qxb6609224a.Rl
