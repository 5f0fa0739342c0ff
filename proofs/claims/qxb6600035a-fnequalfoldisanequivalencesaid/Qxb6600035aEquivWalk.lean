/-
  The walk of FnEqualFoldIsAnEquivalence (4).
-/
import Derived.Test.Qxb6600035aCases
namespace Go.Proofs.Qxb6600035a
open Go.RowKit
namespace Equiv

set_option maxHeartbeats 400000 in
theorem bytes_yes (a b c : ByteArray) (w : World) (h : a.size + b.size + c.size ≤ 1048576) :
    Calls Try.prog 14 #[.string a, .string b, .string c] w fun e w' => e = .returned (.bool true) ∧ w' = w := by
  go_enter Try.func14, Try.ntmps14
  go_wp2
  go_ret
  exact ⟨rfl, rfl⟩
set_option maxHeartbeats 400000 in
theorem bytes_no0 (a b c : ByteArray) (w : World) (h : 1048576 < a.size) (h2 : a.size ≤ 9223372036854775807) :
    Calls Try.prog 14 #[.string a, .string b, .string c] w fun e w' => e = .returned (.bool false) ∧ w' = w := by
  go_enter Try.func14, Try.ntmps14
  go_wp2
  go_ret
  exact ⟨rfl, rfl⟩
set_option maxHeartbeats 400000 in
theorem bytes_no1 (a b c : ByteArray) (w : World) (h : a.size ≤ 1048576) (h2 : 1048576 < b.size) (h3 : b.size ≤ 9223372036854775807) :
    Calls Try.prog 14 #[.string a, .string b, .string c] w fun e w' => e = .returned (.bool false) ∧ w' = w := by
  go_enter Try.func14, Try.ntmps14
  go_wp2
  go_ret
  exact ⟨rfl, rfl⟩
set_option maxHeartbeats 400000 in
theorem bytes_no2 (a b c : ByteArray) (w : World) (h : a.size ≤ 1048576) (h2 : b.size ≤ 1048576) (h3 : 1048576 < a.size + b.size) :
    Calls Try.prog 14 #[.string a, .string b, .string c] w fun e w' => e = .returned (.bool false) ∧ w' = w := by
  go_enter Try.func14, Try.ntmps14
  go_wp2
  go_ret
  exact ⟨rfl, rfl⟩
set_option maxHeartbeats 400000 in
theorem bytes_no3 (a b c : ByteArray) (w : World) (h3 : a.size + b.size ≤ 1048576) (h4 : 1048576 < c.size) (h5 : c.size ≤ 9223372036854775807) :
    Calls Try.prog 14 #[.string a, .string b, .string c] w fun e w' => e = .returned (.bool false) ∧ w' = w := by
  go_enter Try.func14, Try.ntmps14
  go_wp2
  go_ret
  exact ⟨rfl, rfl⟩
set_option maxHeartbeats 400000 in
theorem bytes_no4 (a b c : ByteArray) (w : World) (h3 : a.size + b.size ≤ 1048576) (h4 : c.size ≤ 1048576) (h5 : 1048576 < a.size + b.size + c.size) :
    Calls Try.prog 14 #[.string a, .string b, .string c] w fun e w' => e = .returned (.bool false) ∧ w' = w := by
  go_enter Try.func14, Try.ntmps14
  go_wp2
  go_ret
  exact ⟨rfl, rfl⟩
theorem bytes_no (a b c : ByteArray) (w : World) (ha : a.size ≤ maxLen) (hb : b.size ≤ maxLen) (hc : c.size ≤ maxLen) (h : ¬ a.size + b.size + c.size ≤ 1048576) :
    Calls Try.prog 14 #[.string a, .string b, .string c] w fun e w' => e = .returned (.bool false) ∧ w' = w := by
  unfold maxLen at ha hb hc
  by_cases h0 : 1048576 < a.size
  · exact bytes_no0 a b c w h0 (by omega)
  · by_cases h1 : 1048576 < b.size
    · exact bytes_no1 a b c w (by omega) h1 (by omega)
    · by_cases h2 : 1048576 < a.size + b.size
      · exact bytes_no2 a b c w (by omega) (by omega) h2
      · by_cases h3 : 1048576 < c.size
        · exact bytes_no3 a b c w (by omega) h3 (by omega)
        · exact bytes_no4 a b c w (by omega) (by omega) (by omega)

set_option maxHeartbeats 400000 in
theorem far (a b c : ByteArray) (w : World) (ha : a.size ≤ maxLen) (hb : b.size ≤ maxLen) (hc : c.size ≤ maxLen) (h : ¬ a.size + b.size + c.size ≤ 1048576) :
    Calls Try.prog 4 #[.string a, .string b, .string c] w fun e w' => e = .returned (.bool true) ∧ Below w.heap.size w w' := by
  go_enter Try.func4, Try.ntmps4
  go_wp2_with (go_at_call 14; refine (bytes_no _ _ _ _ ha hb hc h).mono ?_; rintro e w' ⟨rfl, rfl⟩)
  go_ret
  exact ⟨rfl, Below.refl _ _⟩
set_option maxHeartbeats 400000 in
theorem long0 (a b c : ByteArray) (w : World) (h : a.size + b.size + c.size ≤ 1048576) (h1 : 262144 < a.size) :
    Calls Try.prog 4 #[.string a, .string b, .string c] w fun e w' => e = .returned (.bool true) ∧ Below w.heap.size w w' := by
  go_enter Try.func4, Try.ntmps4
  go_wp2_with (go_at_call 14; refine (bytes_yes _ _ _ _ h).mono ?_; rintro e w' ⟨rfl, rfl⟩)
  go_ret
  exact ⟨rfl, Below.refl _ _⟩
set_option maxHeartbeats 400000 in
theorem long1 (a b c : ByteArray) (w : World) (h : a.size + b.size + c.size ≤ 1048576) (h1 : a.size ≤ 262144) (h2 : 262144 < b.size) :
    Calls Try.prog 4 #[.string a, .string b, .string c] w fun e w' => e = .returned (.bool true) ∧ Below w.heap.size w w' := by
  go_enter Try.func4, Try.ntmps4
  go_wp2_with (go_at_call 14; refine (bytes_yes _ _ _ _ h).mono ?_; rintro e w' ⟨rfl, rfl⟩)
  go_ret
  exact ⟨rfl, Below.refl _ _⟩
set_option maxHeartbeats 400000 in
theorem long2 (a b c : ByteArray) (w : World) (h : a.size + b.size + c.size ≤ 1048576) (h1 : a.size ≤ 262144) (h2 : b.size ≤ 262144) (h3 : 262144 < c.size) :
    Calls Try.prog 4 #[.string a, .string b, .string c] w fun e w' => e = .returned (.bool true) ∧ Below w.heap.size w w' := by
  go_enter Try.func4, Try.ntmps4
  go_wp2_with (go_at_call 14; refine (bytes_yes _ _ _ _ h).mono ?_; rintro e w' ⟨rfl, rfl⟩)
  go_ret
  exact ⟨rfl, Below.refl _ _⟩
theorem fold_is (a b : ByteArray) (v : Bool) (w : World) (hm : a.size ≤ 1048576) (h : foldB a b = v) :
    Calls Try.prog 13 #[.string a, .string b] w fun e w' => e = .returned (.bool v) ∧ Below w.heap.size w w' :=
  (zzFold_any a b w (by unfold maxLen; omega)).mono fun e w' ⟨he, hb⟩ => ⟨by rw [he, h], hb⟩
theorem upper_is (s : ByteArray) (w : World) (hs : s.size ≤ 1048576) :
    Calls Try.prog 15 #[.string s] w fun e w' => ∃ u : ByteArray, e = .returned (.string u) ∧ (lowL u = lowL s ∧ u.size ≤ 1048576) ∧ Below w.heap.size w w' :=
  (upper_any s w hs).mono fun e w' ⟨he, hb⟩ => ⟨_, he, ⟨lowL_map low_upC s, by rw [strOfNums_size, List.length_map]; simpa using hs⟩, hb⟩
theorem lower_is (s : ByteArray) (w : World) (hs : s.size ≤ 1048576) :
    Calls Try.prog 16 #[.string s] w fun e w' => ∃ u : ByteArray, e = .returned (.string u) ∧ (lowL u = lowL s ∧ u.size ≤ 1048576) ∧ Below w.heap.size w w' :=
  (lowerOf_any s w hs).mono fun e w' ⟨he, hb⟩ => ⟨_, he, ⟨lowL_map low_loC s, by rw [strOfNums_size, List.length_map]; simpa using hs⟩, hb⟩
theorem fold_of {a b : ByteArray} (h : lowL a = lowL b) : foldB a b = true := decide_eq_true h
theorem fold_comm (a b : ByteArray) : foldB a b = foldB b a := by
  unfold foldB; rw [decide_eq_decide]; exact ⟨Eq.symm, Eq.symm⟩
theorem fold_trans {a b c : ByteArray} (h1 : foldB a b = true) (h2 : foldB b c = true) : foldB a c = true :=
  fold_of ((of_decide_eq_true h1).trans (of_decide_eq_true h2))
set_option maxHeartbeats 1600000 in
theorem good_no (a b c : ByteArray) (w : World) (h : a.size + b.size + c.size ≤ 1048576) (h1 : a.size ≤ 262144) (h2 : b.size ≤ 262144) (h3 : c.size ≤ 262144) (k1 : foldB a b = false) :
    Calls Try.prog 4 #[.string a, .string b, .string c] w fun e w' => e = .returned (.bool true) ∧ Below w.heap.size w w' := by
  have AA : Hid (foldB a a = true) := fold_of rfl
  have AB : Hid (foldB a b = false) := k1
  have BA : Hid (foldB b a = false) := (fold_comm b a).trans AB.out
  clear k1
  go_enter Try.func4, Try.ntmps4
  go_wp2_with fail
  refine (bytes_yes a b c _ h).mono ?_
  rintro e w' ⟨rfl, hw⟩
  obtain rfl := hw.symm
  go_wp2_with fail
  refine (fold_is a a true _ (by omega) AA.out).mono ?_
  rintro e w1 ⟨rfl, hb1⟩
  have B1 : Hid (Below w.heap.size w w1) := hb1
  clear hb1
  go_wp2_with fail
  refine (fold_is a b _ _ (by omega) AB.out).mono ?_
  rintro e w2 ⟨rfl, hb2⟩
  have B2 : Hid (Below w.heap.size w w2) := B1.out.trans (hb2.mono B1.out.size)
  clear hb2 B1
  go_wp2_with fail
  refine (fold_is b a _ _ (by omega) BA.out).mono ?_
  rintro e w3 ⟨rfl, hb3⟩
  have B3 : Hid (Below w.heap.size w w3) := B2.out.trans (hb3.mono B2.out.size)
  clear hb3 B2
  go_wp2_with fail
  refine (fold_is b c (foldB b c) _ (by omega) rfl).mono ?_
  rintro e w4 ⟨rfl, hb4⟩
  have B4 : Hid (Below w.heap.size w w4) := B3.out.trans (hb4.mono B3.out.size)
  clear hb4 B3
  go_wp2_with fail
  refine (fold_is a c (foldB a c) _ (by omega) rfl).mono ?_
  rintro e w5 ⟨rfl, hb5⟩
  have B5 : Hid (Below w.heap.size w w5) := B4.out.trans (hb5.mono B4.out.size)
  clear hb5 B4
  go_wp2_with fail
  refine (upper_is a _ (by omega)).mono ?_
  rintro e w6 ⟨up, rfl, ⟨hup, hus⟩, hb6⟩
  have UP : Hid (lowL up = lowL a) := hup
  have B6 : Hid (Below w.heap.size w w6) := B5.out.trans (hb6.mono B5.out.size)
  clear hb6 B5 hup
  go_wp2_with fail
  refine (lower_is a _ (by omega)).mono ?_
  rintro e w7 ⟨lo, rfl, ⟨hlo, hls⟩, hb7⟩
  have LO : Hid (lowL lo = lowL a) := hlo
  have B7 : Hid (Below w.heap.size w w7) := B6.out.trans (hb7.mono B6.out.size)
  clear hb7 B6 hlo
  go_wp2_with fail
  refine (fold_is a up true _ (by omega) (fold_of UP.out.symm)).mono ?_
  rintro e w8 ⟨rfl, hb8⟩
  have B8 : Hid (Below w.heap.size w w8) := B7.out.trans (hb8.mono B7.out.size)
  clear hb8 B7
  go_wp2_with fail
  refine (fold_is lo a true _ hls (fold_of LO.out)).mono ?_
  rintro e w9 ⟨rfl, hb9⟩
  have B9 : Hid (Below w.heap.size w w9) := B8.out.trans (hb9.mono B8.out.size)
  clear hb9 B8
  go_wp2_with fail
  refine (fold_is up lo true _ hus (fold_of (UP.out.trans LO.out.symm))).mono ?_
  rintro e w10 ⟨rfl, hb10⟩
  have B10 : Hid (Below w.heap.size w w10) := B9.out.trans (hb10.mono B9.out.size)
  clear hb10 B9
  go_wp2
  go_ret
  exact ⟨rfl, B10.out⟩
set_option maxHeartbeats 1600000 in
theorem good_nono (a b c : ByteArray) (w : World) (h : a.size + b.size + c.size ≤ 1048576) (h1 : a.size ≤ 262144) (h2 : b.size ≤ 262144) (h3 : c.size ≤ 262144) (k1 : foldB a b = true) (k2 : foldB b c = false) :
    Calls Try.prog 4 #[.string a, .string b, .string c] w fun e w' => e = .returned (.bool true) ∧ Below w.heap.size w w' := by
  have AA : Hid (foldB a a = true) := fold_of rfl
  have AB : Hid (foldB a b = true) := k1
  have BA : Hid (foldB b a = true) := (fold_comm b a).trans AB.out
  have BC : Hid (foldB b c = false) := k2
  clear k1 k2
  go_enter Try.func4, Try.ntmps4
  go_wp2_with fail
  refine (bytes_yes a b c _ h).mono ?_
  rintro e w' ⟨rfl, hw⟩
  obtain rfl := hw.symm
  go_wp2_with fail
  refine (fold_is a a true _ (by omega) AA.out).mono ?_
  rintro e w1 ⟨rfl, hb1⟩
  have B1 : Hid (Below w.heap.size w w1) := hb1
  clear hb1
  go_wp2_with fail
  refine (fold_is a b _ _ (by omega) AB.out).mono ?_
  rintro e w2 ⟨rfl, hb2⟩
  have B2 : Hid (Below w.heap.size w w2) := B1.out.trans (hb2.mono B1.out.size)
  clear hb2 B1
  go_wp2_with fail
  refine (fold_is b a _ _ (by omega) BA.out).mono ?_
  rintro e w3 ⟨rfl, hb3⟩
  have B3 : Hid (Below w.heap.size w w3) := B2.out.trans (hb3.mono B2.out.size)
  clear hb3 B2
  go_wp2_with fail
  refine (fold_is b c (false) _ (by omega) BC.out).mono ?_
  rintro e w4 ⟨rfl, hb4⟩
  have B4 : Hid (Below w.heap.size w w4) := B3.out.trans (hb4.mono B3.out.size)
  clear hb4 B3
  go_wp2_with fail
  refine (fold_is a c (foldB a c) _ (by omega) rfl).mono ?_
  rintro e w5 ⟨rfl, hb5⟩
  have B5 : Hid (Below w.heap.size w w5) := B4.out.trans (hb5.mono B4.out.size)
  clear hb5 B4
  go_wp2_with fail
  refine (upper_is a _ (by omega)).mono ?_
  rintro e w6 ⟨up, rfl, ⟨hup, hus⟩, hb6⟩
  have UP : Hid (lowL up = lowL a) := hup
  have B6 : Hid (Below w.heap.size w w6) := B5.out.trans (hb6.mono B5.out.size)
  clear hb6 B5 hup
  go_wp2_with fail
  refine (lower_is a _ (by omega)).mono ?_
  rintro e w7 ⟨lo, rfl, ⟨hlo, hls⟩, hb7⟩
  have LO : Hid (lowL lo = lowL a) := hlo
  have B7 : Hid (Below w.heap.size w w7) := B6.out.trans (hb7.mono B6.out.size)
  clear hb7 B6 hlo
  go_wp2_with fail
  refine (fold_is a up true _ (by omega) (fold_of UP.out.symm)).mono ?_
  rintro e w8 ⟨rfl, hb8⟩
  have B8 : Hid (Below w.heap.size w w8) := B7.out.trans (hb8.mono B7.out.size)
  clear hb8 B7
  go_wp2_with fail
  refine (fold_is lo a true _ hls (fold_of LO.out)).mono ?_
  rintro e w9 ⟨rfl, hb9⟩
  have B9 : Hid (Below w.heap.size w w9) := B8.out.trans (hb9.mono B8.out.size)
  clear hb9 B8
  go_wp2_with fail
  refine (fold_is up lo true _ hus (fold_of (UP.out.trans LO.out.symm))).mono ?_
  rintro e w10 ⟨rfl, hb10⟩
  have B10 : Hid (Below w.heap.size w w10) := B9.out.trans (hb10.mono B9.out.size)
  clear hb10 B9
  go_wp2
  go_ret
  exact ⟨rfl, B10.out⟩
set_option maxHeartbeats 1600000 in
theorem good_yes (a b c : ByteArray) (w : World) (h : a.size + b.size + c.size ≤ 1048576) (h1 : a.size ≤ 262144) (h2 : b.size ≤ 262144) (h3 : c.size ≤ 262144) (k1 : foldB a b = true) (k2 : foldB b c = true) :
    Calls Try.prog 4 #[.string a, .string b, .string c] w fun e w' => e = .returned (.bool true) ∧ Below w.heap.size w w' := by
  have AA : Hid (foldB a a = true) := fold_of rfl
  have AB : Hid (foldB a b = true) := k1
  have BA : Hid (foldB b a = true) := (fold_comm b a).trans AB.out
  have BC : Hid (foldB b c = true) := k2
  have AC : Hid (foldB a c = true) := fold_trans k1 k2
  clear k1 k2
  go_enter Try.func4, Try.ntmps4
  go_wp2_with fail
  refine (bytes_yes a b c _ h).mono ?_
  rintro e w' ⟨rfl, hw⟩
  obtain rfl := hw.symm
  go_wp2_with fail
  refine (fold_is a a true _ (by omega) AA.out).mono ?_
  rintro e w1 ⟨rfl, hb1⟩
  have B1 : Hid (Below w.heap.size w w1) := hb1
  clear hb1
  go_wp2_with fail
  refine (fold_is a b _ _ (by omega) AB.out).mono ?_
  rintro e w2 ⟨rfl, hb2⟩
  have B2 : Hid (Below w.heap.size w w2) := B1.out.trans (hb2.mono B1.out.size)
  clear hb2 B1
  go_wp2_with fail
  refine (fold_is b a _ _ (by omega) BA.out).mono ?_
  rintro e w3 ⟨rfl, hb3⟩
  have B3 : Hid (Below w.heap.size w w3) := B2.out.trans (hb3.mono B2.out.size)
  clear hb3 B2
  go_wp2_with fail
  refine (fold_is b c (true) _ (by omega) BC.out).mono ?_
  rintro e w4 ⟨rfl, hb4⟩
  have B4 : Hid (Below w.heap.size w w4) := B3.out.trans (hb4.mono B3.out.size)
  clear hb4 B3
  go_wp2_with fail
  refine (fold_is a c (true) _ (by omega) AC.out).mono ?_
  rintro e w5 ⟨rfl, hb5⟩
  have B5 : Hid (Below w.heap.size w w5) := B4.out.trans (hb5.mono B4.out.size)
  clear hb5 B4
  go_wp2_with fail
  refine (upper_is a _ (by omega)).mono ?_
  rintro e w6 ⟨up, rfl, ⟨hup, hus⟩, hb6⟩
  have UP : Hid (lowL up = lowL a) := hup
  have B6 : Hid (Below w.heap.size w w6) := B5.out.trans (hb6.mono B5.out.size)
  clear hb6 B5 hup
  go_wp2_with fail
  refine (lower_is a _ (by omega)).mono ?_
  rintro e w7 ⟨lo, rfl, ⟨hlo, hls⟩, hb7⟩
  have LO : Hid (lowL lo = lowL a) := hlo
  have B7 : Hid (Below w.heap.size w w7) := B6.out.trans (hb7.mono B6.out.size)
  clear hb7 B6 hlo
  go_wp2_with fail
  refine (fold_is a up true _ (by omega) (fold_of UP.out.symm)).mono ?_
  rintro e w8 ⟨rfl, hb8⟩
  have B8 : Hid (Below w.heap.size w w8) := B7.out.trans (hb8.mono B7.out.size)
  clear hb8 B7
  go_wp2_with fail
  refine (fold_is lo a true _ hls (fold_of LO.out)).mono ?_
  rintro e w9 ⟨rfl, hb9⟩
  have B9 : Hid (Below w.heap.size w w9) := B8.out.trans (hb9.mono B8.out.size)
  clear hb9 B8
  go_wp2_with fail
  refine (fold_is up lo true _ hus (fold_of (UP.out.trans LO.out.symm))).mono ?_
  rintro e w10 ⟨rfl, hb10⟩
  have B10 : Hid (Below w.heap.size w w10) := B9.out.trans (hb10.mono B9.out.size)
  clear hb10 B9
  go_wp2
  go_ret
  exact ⟨rfl, B10.out⟩
theorem any (a b c : ByteArray) (w : World) (ha : a.size ≤ maxLen) (hb : b.size ≤ maxLen) (hc : c.size ≤ maxLen) :
    Calls Try.prog 4 #[.string a, .string b, .string c] w fun e w' => e = .returned (.bool true) ∧ Below w.heap.size w w' := by
  by_cases h : a.size + b.size + c.size ≤ 1048576
  · by_cases h1 : 262144 < a.size
    · exact long0 a b c w h h1
    · by_cases h2 : 262144 < b.size
      · exact long1 a b c w h (by omega) h2
      · by_cases h3 : 262144 < c.size
        · exact long2 a b c w h (by omega) (by omega) h3
        · by_cases k1 : foldB a b = true
          · by_cases k2 : foldB b c = true
            · exact good_yes a b c w h (by omega) (by omega) (by omega) k1 k2
            · exact good_nono a b c w h (by omega) (by omega) (by omega) k1 (by simpa using k2)
          · exact good_no a b c w h (by omega) (by omega) (by omega) (by simpa using k1)
  · exact far a b c w ha hb hc h
end Equiv
end Go.Proofs.Qxb6600035a
