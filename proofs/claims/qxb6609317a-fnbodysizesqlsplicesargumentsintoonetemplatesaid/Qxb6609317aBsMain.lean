import Derived.Test.Qxb6609317aBsParts
namespace Go.Proofs.Qxb6609317a
open Go.RowKit

set_option maxHeartbeats 400000 in
theorem bs_bytes (a b : ByteArray) (w : World) (ha : a.size ≤ maxLen) (hb : b.size ≤ maxLen) :
    Calls Try.prog 7 #[.string a, .string b] w fun e w' => e = .returned (.bool (decide (a.size + b.size ≤ 1048576))) ∧ w = w' := by
  unfold maxLen at ha hb
  by_cases g1 : (1048576 : Int) < a.size
  · go_enter Try.func7, Try.ntmps7
    go_wp2
    go_ret
    exact ⟨by simp; omega, rfl⟩
  by_cases g2 : (1048576 : Int) < b.size
  · go_enter Try.func7, Try.ntmps7
    go_wp2
    go_ret
    exact ⟨by simp; omega, rfl⟩
  by_cases g3 : (1048576 : Int) < a.size + b.size
  · go_enter Try.func7, Try.ntmps7
    go_wp2
    go_ret
    exact ⟨by simp; omega, rfl⟩
  go_enter Try.func7, Try.ntmps7
  go_wp2
  go_ret
  exact ⟨by simp; omega, rfl⟩

theorem sql_toList (a b : ByteArray) : ((sql a b).toList == ((⟨#[99, 111, 97, 108, 101, 115, 99, 101, 40]⟩ : ByteArray) ++ a ++ mid ++ b ++ ⟨#[41, 41]⟩).toList) = true := by
  rw [show sql a b = (⟨#[99, 111, 97, 108, 101, 115, 99, 101, 40]⟩ : ByteArray) ++ a ++ mid ++ b ++ ⟨#[41, 41]⟩ from rfl]; simp

set_option maxRecDepth 100000 in
set_option maxHeartbeats 1000000 in
theorem bs_main (a0 a1 : ByteArray) (w0 : a0.size ≤ maxLen) (w1 : a1.size ≤ maxLen) (w : World) :
    Calls Try.prog 3 #[.string a0, .string a1] w fun e w' => e = .returned (.bool true) ∧ w = w' := by
  have HB := bs_bytes a0 a1 w w0 w1
  unfold maxLen at w0 w1
  by_cases g0 : a0.size + a1.size ≤ 1048576
  rotate_left
  · rw [decide_eq_false g0] at HB
    go_enter Try.func3, Try.ntmps3
    go_wp2_with fail
    refine HB.mono ?_
    rintro e w2 ⟨rfl, rfl⟩
    go_wp2
    go_ret
    exact ⟨rfl, rfl⟩
  rw [decide_eq_true g0] at HB
  go_enter Try.func3, Try.ntmps3
  go_wp2_with fail
  refine HB.mono ?_
  rintro e w2 ⟨rfl, rfl⟩
  clear HB
  by_cases g1 : (524288 : Int) < a0.size
  · go_wp2
    go_ret
    exact ⟨rfl, rfl⟩
  by_cases g2 : (524288 : Int) < a1.size
  · go_wp2
    go_ret
    exact ⟨rfl, rfl⟩
  go_wp2_with fail
  refine (zsql_any ⟨#[]⟩ ⟨#[]⟩ _ (by decide) (by decide)).mono ?_
  rintro e w2 ⟨rfl, rfl⟩
  rw [emp_eq]
  have hes := emp_size
  go_wp2_with fail
  refine (prefix_yes emp pre _ (by decide +kernel) (by decide +kernel)).mono ?_
  rintro e w2 ⟨rfl, rfl⟩
  go_wp2_with fail
  refine (suffix_yes emp post _ (by decide +kernel) (by decide +kernel) (by decide +kernel)).mono ?_
  rintro e w2 ⟨rfl, rfl⟩
  go_wp2_with fail
  rw [emp_mid]
  refine (zsql_any a0 a1 _ (by omega) (by omega)).mono ?_
  rintro e w2 ⟨rfl, rfl⟩
  have hms := mid_size
  have hq := sql_toList a0 a1
  clear hes
  go_wp2_with fail
  refine (prefix_yes mid ⟨#[44]⟩ _ (by decide +kernel) (by decide +kernel)).mono ?_
  rintro e w2 ⟨rfl, rfl⟩
  go_wp2_with fail
  refine (contains_yes mid ⟨#[106, 46, 112, 97, 121, 108, 111, 97, 100, 95, 98, 121, 116, 101, 115, 32, 43, 32, 99, 111, 97, 108, 101, 115, 99, 101, 40, 97, 46, 114, 101, 115, 117, 108, 116, 95, 98, 121, 116, 101, 115, 44, 32, 48, 41]⟩ 12 _ (by decide +kernel) (by decide +kernel) (by decide +kernel)).mono ?_
  rintro e w2 ⟨rfl, rfl⟩
  go_wp2_with fail
  refine (contains_yes mid ⟨#[70, 82, 79, 77, 32, 106, 111, 98, 115, 32, 106]⟩ 58 _ (by decide +kernel) (by decide +kernel) (by decide +kernel)).mono ?_
  rintro e w2 ⟨rfl, rfl⟩
  go_wp2_with fail
  refine (contains_yes mid ⟨#[115, 116, 97, 116, 117, 115, 32, 61, 32, 39, 99, 111, 109, 112, 108, 101, 116, 101, 100, 39]⟩ 143 _ (by decide +kernel) (by decide +kernel) (by decide +kernel)).mono ?_
  rintro e w2 ⟨rfl, rfl⟩
  go_wp2_with fail
  refine (suffix_yes mid ⟨#[87, 72, 69, 82, 69, 32, 106, 46, 105, 100, 32, 61, 32]⟩ _ (by decide +kernel) (by decide +kernel) (by decide +kernel)).mono ?_
  rintro e w2 ⟨rfl, rfl⟩
  go_wp2
  go_ret
  exact ⟨rfl, rfl⟩
end Go.Proofs.Qxb6609317a
