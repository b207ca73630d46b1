import Derived.Test.Qxb6609329aAfLaws
import Derived.Deep.DeepMust
import Derived.Deep.RegionWith
import Derived.Maps.AppendAt
namespace Go.Proofs.Qxb6609329a
open Go.RowKit

def isGlobal (sc : ByteArray) : Bool := sc.toList == [71, 76, 79, 66, 65, 76]

/-- The flag body: the name, behind the scope and a dash where the option is scoped. -/
def body (sc nm : ByteArray) : List UInt8 := if isGlobal sc then nm.data.toList else sc.data.toList ++ [45] ++ nm.data.toList

theorem body_yes {sc nm : ByteArray} (h : isGlobal sc = true) : body sc nm = nm.data.toList := by unfold body; rw [if_pos h]
theorem body_no {sc nm : ByteArray} (h : isGlobal sc = false) : body sc nm = sc.data.toList ++ [45] ++ nm.data.toList := by unfold body; rw [if_neg (by simp [h])]

theorem src_string (w : World) (s : ByteArray) : Src Try.prog 1 9 (.string s) s.data.toList.length (bcells s.data.toList) w := by
  have h := Src.ofString (P := Try.prog) w (tx := 9) Try.underlying9 s
  have e : s.data.toList.length = s.size := by rw [Array.length_toList]; rfl
  rw [e]; exact h

theorem src_dash (w : World) (o : Obj) (ho : o = .cells #[.int .u8 45] 5) : Src Try.prog 1 26 (.slice (some ⟨w.heap.size, 0, none⟩) 1 1) ([45] : List UInt8).length (bcells [45]) (w.alloc o) := by
  subst ho
  refine Src.ofSlice (w.alloc _) Try.underlying26 ⟨w.heap.size, 0, none⟩ 1 1 (bcells [45]) rfl ?_ (bcells_one _)
  exact cell_one_new w (.int .u8 45) 5

theorem Grew.trans {B : Nat} {w w1 w2 : World} {v v1 v2 : Value} {a b : List UInt8} (h : Grew B w w1 v v1 a) (k : Grew B w1 w2 v1 v2 b) : Grew B w w2 v v2 b := by
  refine ⟨k.own, ⟨k.grown.os.trans h.grown.os, k.grown.tape.trans h.grown.tape, k.grown.output.trans h.grown.output, Nat.le_trans h.grown.size k.grown.size, fun j hj hne => ?_⟩, ?_⟩
  · refine (k.grown.block j (Nat.lt_of_lt_of_le hj h.grown.size) ?_).trans (h.grown.block j hj hne)
    intro e
    rcases h.place with hp | ⟨q, hq, hle⟩
    · exact hne (e.trans hp)
    · rw [hq] at e; simp at e; omega
  · rcases k.place with kp | ⟨q, hq, hle⟩
    · rw [kp]; exact h.place
    · exact Or.inr ⟨q, hq, Nat.le_trans h.grown.size hle⟩

/-- A new block ahead of an append. -/
theorem Grew.behind {B : Nat} {w w1 : World} {o : Obj} {v v1 : Value} {a : List UInt8} (h : Grew B (w.alloc o) w1 v v1 a) : Grew B w w1 v v1 a := by
  refine ⟨h.own, ⟨h.grown.os, h.grown.tape, h.grown.output, by have := h.grown.size; simp at this; omega, fun j hj hne => ?_⟩, ?_⟩
  · exact (h.grown.block j (by simp; omega) hne).trans (Below.heap_alloc _ _ _ hj)
  · rcases h.place with hp | ⟨q, hq, hle⟩
    · exact Or.inl hp
    · exact Or.inr ⟨q, hq, by simp at hle; omega⟩

theorem Own.alloc {B : Nat} {w : World} {v : Value} {bs : List UInt8} (h : Own B w v bs) (o : Obj) : Own B (w.alloc o) v bs :=
  h.keep (by simp) (fun k hk => Below.heap_alloc _ _ _ (h.lt k hk).2)

set_option maxHeartbeats 1000000 in
theorem append18 (B : Nat) (sc nm : ByteArray) (v : Value) (bs : List UInt8) (w : World) (hown : Own B w v bs) (hs : sc.size ≤ 262144) (hn : nm.size ≤ 262144) (hb : bs.length ≤ 262144) (hB : B ≤ w.heap.size) :
    Calls Try.prog 18 #[.agg #[.string sc, .string nm], v] w fun e w' => ∃ v', e = .returned v' ∧ Grew B w w' v v' (bs ++ body sc nm) := by
  have hlt : ∀ k, v.ownBlock = some k → k < w.heap.size := fun k hk => (hown.lt k hk).2
  have HL : Hid _ := hlt
  have HO : Hid (Own B w v bs) := hown
  have e1 : sc.data.toList.length = sc.size := by rw [Array.length_toList]; rfl
  have e2 : nm.data.toList.length = nm.size := by rw [Array.length_toList]; rfl
  obtain ⟨va, vc, hv⟩ := hown.form
  have HV : Hid _ := hv
  clear hown hlt hv
  cases hg : (sc.toList == [71, 76, 79, 66, 65, 76])
  · have HG : Hid (isGlobal sc = false) := hg
    have HE1 : Hid _ := e1
    have HE2 : Hid _ := e2
    clear e1 e2
    go_enter Try.func18, Try.ntmps18
    go_wp2_with (at_builtin; go_must (refine wpList_append_any rfl (.tmp 8) (.tmp 10) 9 rfl B v bs sc.data.toList rfl ?o1 (.string sc) rfl (src_string _ sc) ?b1 ?c1 ?_))
    case o1 => exact HO.out.alloc _
    case b1 => rw [HE1.out]; omega
    case c1 => simp; omega
    intro v1 w1 G1
    have G1' : Hid _ := G1
    have hs1 := G1.grown.size
    simp only [World.size_alloc] at hs1
    clear G1
    go_wp2_with (at_builtin; go_must (refine wpList_append_any rfl (.tmp 11) (.tmp 12) 26 rfl B v1 (bs ++ sc.data.toList) [45] rfl ?o2 (.slice (some ⟨w1.heap.size, 0, none⟩) 1 1) rfl (src_dash w1 _ rfl) ?b2 ?c2 ?_))
    case o2 => exact G1'.out.own.alloc _
    case b2 => simp only [List.length_append, HE1.out, List.length_cons, List.length_nil]; omega
    case c2 => simp; omega
    intro v2 w2 G2
    have G2' : Hid _ := G1'.out.trans G2.behind
    have hs2 := G2'.out.grown.size
    simp only [World.size_alloc] at hs2
    have hc2 : w2.cell? ⟨w.heap.size, 1, none⟩ = some (.string nm) := by
      have := World.cell?_of_block (w := w.alloc (Obj.cells #[Value.string sc, Value.string nm] 29)) (a := ⟨w.heap.size, 1, none⟩) (G2'.out.grown.block w.heap.size (by simp) (fun e => by have := HL.out _ e.symm; omega))
      rw [this, cell_of_row _ _ _ _ _ _ (heap_alloc_new w _)]; rfl
    clear G2
    go_wp2_with (at_builtin; go_must (refine wpList_append_any rfl (.tmp 14) (.tmp 16) 9 rfl B v2 (bs ++ sc.data.toList ++ [45]) nm.data.toList rfl ?o3 (.string nm) rfl (src_string _ nm) ?b3 ?c3 ?_))
    case o3 => rw [List.append_assoc]; exact G2'.out.own
    case b3 => simp only [List.length_append, HE1.out, HE2.out, List.length_cons, List.length_nil]; omega
    case c3 => omega
    intro v3 w3 G3
    have G3' : Hid _ := (G2'.out.trans G3).behind
    clear G3
    go_wp2
    go_ret
    refine ⟨v3, rfl, ?_⟩
    have e : body sc nm = sc.data.toList ++ 45 :: nm.data.toList := by rw [body_no HG.out]; simp
    rw [e]
    exact G3'.out
  · have HG : Hid (isGlobal sc = true) := hg
    have HE2 : Hid _ := e2
    clear e1 e2
    go_enter Try.func18, Try.ntmps18
    go_wp2_with (at_builtin; go_must (refine wpList_append_any rfl (.tmp 14) (.tmp 16) 9 rfl B v bs nm.data.toList rfl ?o1 (.string nm) rfl (src_string _ nm) ?b1 ?c1 ?_))
    case o1 => exact HO.out.alloc _
    case b1 => rw [HE2.out]; omega
    case c1 => simp; omega
    intro v1 w1 G1
    have G1' : Hid _ := G1.behind
    clear G1
    go_wp2
    go_ret
    refine ⟨v1, rfl, ?_⟩
    rw [body_yes HG.out]
    exact G1'.out

set_option maxHeartbeats 1000000 in
theorem append9 (B : Nat) (sc nm : ByteArray) (v : Value) (bs : List UInt8) (w : World) (hown : Own B w v bs) (hs : sc.size ≤ 262144) (hn : nm.size ≤ 262144) (hb : bs.length ≤ 262144) (hB : B ≤ w.heap.size) :
    Calls Try.prog 9 #[.agg #[.string sc, .string nm], v] w fun e w' => ∃ v', e = .returned v' ∧ Grew B w w' v v' (bs ++ body sc nm) := by
  have HO : Hid (Own B w v bs) := hown
  clear hown
  go_enter Try.func9, Try.ntmps9
  go_wp2_with fail
  refine (append18 B sc nm v bs _ (HO.out.alloc _) hs hn hb (by simp; omega)).mono ?_
  rintro e w1 ⟨v1, rfl, G1⟩
  have G1' : Hid _ := G1.behind
  clear G1
  go_wp2
  go_ret
  exact ⟨v1, rfl, G1'.out⟩

theorem body_length (sc nm : ByteArray) : (body sc nm).length = if isGlobal sc then nm.size else sc.size + 1 + nm.size := by
  have e1 : sc.data.toList.length = sc.size := by rw [Array.length_toList]; rfl
  have e2 : nm.data.toList.length = nm.size := by rw [Array.length_toList]; rfl
  unfold body
  split
  · exact e2
  · simp only [List.length_append, e1, e2, List.length_cons, List.length_nil]

theorem own_room (w : World) (o : Obj) (cs : Array Value) (tag : TypeId) (ho : o = .cells cs tag) (cap : Nat) (hc : cap ≤ cs.size) : Own w.heap.size (w.alloc o) (.slice (some ⟨w.heap.size, 0, none⟩) 0 cap) [] := by
  subst ho
  refine Or.inr ⟨w.heap.size, cap, rfl, Nat.le_refl _, by simp, Nat.zero_le _, fun j u hu => by simp [bcells] at hu, fun j hj => ?_⟩
  have hb := heap_alloc_new w (.cells cs tag)
  rw [cell_of_row _ _ _ _ _ _ hb, frozen_of_row _ _ _ _ _ hb]
  simp; omega

set_option maxRecDepth 100000 in
set_option maxHeartbeats 2000000 in
theorem flag19 (sc nm : ByteArray) (w : World) (hs : sc.size ≤ 262144) (hn : nm.size ≤ 262144) :
    Calls Try.prog 19 #[.agg #[.string sc, .string nm]] w fun e w' => e = .returned (.string ⟨(body sc nm).toArray⟩) ∧ Below w.heap.size w w' := by
  go_enter Try.func19, Try.ntmps19
  go_wp2
  generalize hW : World.alloc (World.alloc w _) _ = W
  have c0 : W.cell? ⟨w.heap.size, 0, none⟩ = some (.string sc) := by
    rw [← hW, World.cell?_of_block (w := w.alloc _) (Below.heap_alloc _ _ _ (by simp)), cell_of_row _ _ _ _ _ _ (heap_alloc_new w _)]; rfl
  have c1 : W.cell? ⟨w.heap.size, 1, none⟩ = some (.string nm) := by
    rw [← hW, World.cell?_of_block (w := w.alloc _) (Below.heap_alloc _ _ _ (by simp)), cell_of_row _ _ _ _ _ _ (heap_alloc_new w _)]; rfl
  have own : Own (w.heap.size + 1) W (.slice (some ⟨w.heap.size + 1, 0, none⟩) 0 64) [] := by
    have h1 : (w.alloc (Obj.cells #[Value.string sc, Value.string nm] 29)).heap.size = w.heap.size + 1 := by simp
    rw [← hW, ← h1]
    refine own_room _ _ _ 68 rfl 64 ?_
    exact Nat.le_refl 64
  have bel : Below w.heap.size w W := by rw [← hW]; exact ((Below.refl _ _).alloc (Nat.le_refl _) _).alloc (by simp) _
  have hsz : W.heap.size = w.heap.size + 2 := by rw [← hW]; simp
  have hsz' : w.heap.size + 2 ≤ W.heap.size := by omega
  have HO : Hid (Own (w.heap.size + 1) W (.slice (some ⟨w.heap.size + 1, 0, none⟩) 0 64) []) := own
  clear hW own hsz
  have H18 : Hid (Calls Try.prog 18 #[.agg #[.string sc, .string nm], .slice (some ⟨w.heap.size + 1, 0, none⟩) 0 64] W.drew fun e w' => ∃ v', e = .returned v' ∧ Grew (w.heap.size + 1) W.drew w' (.slice (some ⟨w.heap.size + 1, 0, none⟩) 0 64) v' ([] ++ body sc nm)) := append18 (w.heap.size + 1) sc nm (.slice (some ⟨w.heap.size + 1, 0, none⟩) 0 64) [] W.drew (HO.out.keep (Nat.le_refl _) (fun _ _ => rfl)) hs hn (Nat.zero_le _) (by simp; omega)
  go_region_with (go_at_call 18; refine H18.out.mono ?_; rintro e w1 ⟨v1, rfl, G1⟩; have hcv := string_own _ w1 v1 _ G1.own; have G1' : Hid (Grew (w.heap.size + 1) W.drew w1 (.slice (some ⟨w.heap.size + 1, 0, none⟩) 0 64) v1 ([] ++ body sc nm)) := G1; clear G1)
  go_wp2
  go_ret
  refine ⟨rfl, bel.drew.grown G1'.out.grown (by simp; omega) (fun k hk => ?_)⟩
  simp [Value.ownBlock] at hk
  omega

set_option maxHeartbeats 400000 in
theorem flag10 (sc nm : ByteArray) (w : World) (hs : sc.size ≤ 262144) (hn : nm.size ≤ 262144) :
    Calls Try.prog 10 #[.agg #[.string sc, .string nm]] w fun e w' => e = .returned (.string ⟨(body sc nm).toArray⟩) ∧ Below w.heap.size w w' := by
  go_enter Try.func10, Try.ntmps10
  go_wp2_with fail
  refine (flag19 sc nm _ hs hn).mono ?_
  rintro e w1 ⟨rfl, hb⟩
  go_wp2
  go_ret
  exact ⟨rfl, ((Below.refl _ _).alloc (Nat.le_refl _) _).trans (hb.mono (by simp))⟩

set_option maxHeartbeats 400000 in
theorem bytes8 (a b : ByteArray) (pa : Option Addr) (pl pc : Nat) (w : World) (ha : a.size ≤ maxLen) (hb : b.size ≤ maxLen) (hp : pl ≤ maxLen) :
    Calls Try.prog 8 #[.string a, .string b, .slice pa pl pc] w fun e w' => e = .returned (.bool (decide (a.size + b.size + pl ≤ 1048576))) ∧ w = w' := by
  unfold maxLen at ha hb hp
  by_cases g1 : (1048576 : Int) < a.size
  · go_enter Try.func8, Try.ntmps8
    go_wp2
    go_ret
    exact ⟨by simp; omega, rfl⟩
  by_cases g2 : (1048576 : Int) < b.size
  · go_enter Try.func8, Try.ntmps8
    go_wp2
    go_ret
    exact ⟨by simp; omega, rfl⟩
  by_cases g3 : (1048576 : Int) < a.size + b.size
  · go_enter Try.func8, Try.ntmps8
    go_wp2
    go_ret
    exact ⟨by simp; omega, rfl⟩
  by_cases g4 : (1048576 : Int) < pl
  · go_enter Try.func8, Try.ntmps8
    go_wp2
    go_ret
    exact ⟨by simp; omega, rfl⟩
  by_cases g5 : (1048576 : Int) < a.size + b.size + pl
  · go_enter Try.func8, Try.ntmps8
    go_wp2
    go_ret
    exact ⟨by simp; omega, rfl⟩
  go_enter Try.func8, Try.ntmps8
  go_wp2
  go_ret
  exact ⟨by simp; omega, rfl⟩
end Go.Proofs.Qxb6609329a
