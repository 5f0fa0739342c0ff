/-
  The walk of FnAllDigitsAcceptsEveryNumeral (5).
-/
import Derived.Test.Qxb6600381aUtoa
namespace Go.Proofs.Qxb6600381a
open Go.RowKit

theorem zz_is (s : ByteArray) (v : Bool) (w : World) (hm : s.size ≤ 1048576) (h : adB s = v) :
    Calls Try.prog 11 #[.string s] w fun e w' => e = .returned (.bool v) ∧ w' = w :=
  (zzAll_any s w (by unfold maxLen; omega)).mono fun e w' ⟨he, hw⟩ => ⟨by rw [he, h], hw⟩

theorem adB_mem {s : ByteArray} {c : UInt8} (hc : c ∈ s.data.toList) (h : digB c = false) : adB s = false := by
  have : s.data.toList.all digB = false := by
    rw [List.all_eq_false]
    exact ⟨c, hc, by simp [h]⟩
  simp [adB, this]
theorem cat_data (a b : ByteArray) : (a ++ b).data.toList = a.data.toList ++ b.data.toList := by simp
theorem head_no (c : UInt8) (u : ByteArray) (h : digB c = false) : adB (⟨#[c]⟩ ++ u) = false :=
  adB_mem (c := c) (by rw [cat_data]; exact List.mem_append_left _ (List.mem_singleton.2 rfl)) h
theorem tail_no (c : UInt8) (u : ByteArray) (h : digB c = false) : adB (u ++ ⟨#[c]⟩) = false :=
  adB_mem (c := c) (by rw [cat_data]; exact List.mem_append_right _ (List.mem_singleton.2 rfl)) h
theorem cat_size (a b : ByteArray) : (a ++ b).size = a.size + b.size := by simp
theorem head_size (c : UInt8) (u : ByteArray) (h : u.size ≤ 20) : (⟨#[c]⟩ ++ u : ByteArray).size ≤ 1048576 := by
  rw [cat_size, show (⟨#[c]⟩ : ByteArray).size = 1 from rfl]; omega
theorem tail_size (c : UInt8) (u : ByteArray) (h : u.size ≤ 20) : (u ++ ⟨#[c]⟩ : ByteArray).size ≤ 1048576 := by
  rw [cat_size, show (⟨#[c]⟩ : ByteArray).size = 1 from rfl]; omega

set_option maxHeartbeats 400000 in
theorem numeral_any (n : Nat) (w : World) (hn : n ≤ 18446744073709551615) :
    Calls Try.prog 5 #[.int .u64 n] w fun e w' => e = .returned (.bool true) ∧ Below w.heap.size w w' := by
  go_enter Try.func5, Try.ntmps5
  go_wp2_with fail
  refine (utoa_any n _ hn).mono ?_
  rintro e w1 ⟨u, rfl, hu, hb⟩
  have HU : Hid (Numeral u) := hu
  have HB : Hid (Below w.heap.size w w1) := hb
  have hs : u.size ≤ 20 := hu.2.1
  clear hu hb
  go_wp2_with fail
  refine (zz_is u true _ (by omega) (adB_yes HU.out.1 HU.out.2.2)).mono ?_
  rintro e w2 ⟨rfl, hw⟩
  obtain rfl := hw.symm
  go_wp2_with fail
  refine (zz_is _ false _ (head_size _ u hs) (head_no _ u ?_)).mono ?_
  · decide
  rintro e w3 ⟨rfl, hw⟩
  obtain rfl := hw.symm
  go_wp2_with fail
  refine (zz_is _ false _ (head_size _ u hs) (head_no _ u ?_)).mono ?_
  · decide
  rintro e w4 ⟨rfl, hw⟩
  obtain rfl := hw.symm
  go_wp2_with fail
  refine (zz_is _ false _ (tail_size _ u hs) (tail_no _ u ?_)).mono ?_
  · decide
  rintro e w5 ⟨rfl, hw⟩
  obtain rfl := hw.symm
  go_wp2
  go_ret
  exact ⟨rfl, HB.out⟩
end Go.Proofs.Qxb6600381a
