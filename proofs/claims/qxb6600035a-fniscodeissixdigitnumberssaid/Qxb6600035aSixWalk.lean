/-
  The walk of FnIsCodeIsSixDigitNumbers (7).
-/
import Derived.Test.Qxb6600035aWithDigit
namespace Go.Proofs.Qxb6600035a
open Go.RowKit
namespace Pad

set_option maxHeartbeats 400000 in
theorem bytes_yes (s : ByteArray) (n : Int) (w : World) (h : s.size ≤ 1048576) :
    Calls Try.prog 20 #[.string s, .int .i64 n] w fun e w' => e = .returned (.bool true) ∧ w' = w := by
  go_enter Try.func20, Try.ntmps20
  go_wp2
  go_ret
  exact ⟨rfl, rfl⟩
set_option maxHeartbeats 400000 in
theorem bytes_no (s : ByteArray) (n : Int) (w : World) (h : 1048576 < s.size) :
    Calls Try.prog 20 #[.string s, .int .i64 n] w fun e w' => e = .returned (.bool false) ∧ w' = w := by
  go_enter Try.func20, Try.ntmps20
  go_wp2
  go_ret
  exact ⟨rfl, rfl⟩
set_option maxHeartbeats 400000 in
theorem far (s : ByteArray) (n : Int) (w : World) (h : 1048576 < s.size) :
    Calls Try.prog 7 #[.string s, .int .i64 n] w fun e w' => e = .returned (.bool true) ∧ Below w.heap.size w w' := by
  go_enter Try.func7, Try.ntmps7
  go_wp2_with (go_at_call 20; refine (bytes_no _ _ _ h).mono ?_; rintro e w' ⟨rfl, rfl⟩)
  go_ret
  exact ⟨rfl, Below.refl _ _⟩
theorem code_is (s : ByteArray) (v : Bool) (w : World) (h : codeB s = v) :
    Calls Try.prog 19 #[.string s] w fun e w' => e = .returned (.bool v) ∧ Below w.heap.size w w' :=
  (zzIsCode_any s w).mono fun e w' ⟨he, hb⟩ => ⟨by rw [he, h], hb⟩
theorem pad_is (n : Nat) (w : World) (hn : n ≤ 999999) :
    Calls Try.prog 21 #[.int .i64 n] w fun e w' => ∃ p : ByteArray, e = .returned (.string p) ∧ (p.size = 6 ∧ codeB p = true) ∧ Below w.heap.size w w' :=
  (pad_any n w hn).mono fun _ _ ⟨he, hb⟩ => ⟨_, he, ⟨pad_size n, pad_code n⟩, hb⟩
theorem pad_back (s : ByteArray) (w : World) (h : codeB s = true) :
    Calls Try.prog 21 #[.int .i64 (val s 6)] w fun e w' => e = .returned (.string s) ∧ Below w.heap.size w w' :=
  (pad_any (val s 6) w (val_bound (code_digits h).2 6 (by omega))).mono fun e w' ⟨he, hb⟩ => ⟨by rw [he, pad_val h], hb⟩
theorem wd_is (p : ByteArray) (d : Nat) (w : World) (hs : p.size = 6) (hd : d ≤ 9) :
    Calls Try.prog 22 #[.string p, .int .i64 d] w fun e w' => ∃ u : ByteArray, e = .returned (.string u) ∧ codeB u = false ∧ Below w.heap.size w w' :=
  (withDigit_any p d w (by omega) hd).mono fun e w' ⟨he, hb⟩ => ⟨_, he, codeB_size (by rw [wd_size]; omega), hb⟩
theorem parse_is (s : ByteArray) (w : World) (h : codeB s = true) :
    Calls Try.prog 23 #[.string s] w fun e w' => e = .returned (.int .i64 (val s 6)) ∧ w' = w := parse_any s w h
theorem short5 {p : ByteArray} (h : p.size = 6) : codeB (p.extract 0 5) = false := codeB_size (by simp [ByteArray.size_extract]; omega)
set_option maxHeartbeats 800000 in
theorem out_neg_no (s : ByteArray) (n : Int) (w : World) (h : s.size ≤ 1048576) (hn : n < 0) (hc : codeB s = false) :
    Calls Try.prog 7 #[.string s, .int .i64 n] w fun e w' => e = .returned (.bool true) ∧ Below w.heap.size w w' := by
  have HC : Hid (codeB s = false) := hc
  have B0 : Hid (Below w.heap.size w w) := Below.refl _ _
  clear hc
  go_enter Try.func7, Try.ntmps7
  go_wp2_with fail
  refine (bytes_yes s n _ h).mono ?_
  rintro e w' ⟨rfl, hw⟩
  obtain rfl := hw.symm
  go_wp2_with fail
  refine (code_is s false _ HC.out).mono ?_
  rintro e wa ⟨rfl, hba⟩
  have BA : Hid (Below w.heap.size w wa) := B0.out.trans (hba.mono B0.out.size)
  clear hba
  go_wp2
  go_ret
  exact ⟨rfl, BA.out⟩
set_option maxHeartbeats 800000 in
theorem out_big_no (s : ByteArray) (n : Int) (w : World) (h : s.size ≤ 1048576) (hn : 999999 < n) (hc : codeB s = false) :
    Calls Try.prog 7 #[.string s, .int .i64 n] w fun e w' => e = .returned (.bool true) ∧ Below w.heap.size w w' := by
  have HC : Hid (codeB s = false) := hc
  have B0 : Hid (Below w.heap.size w w) := Below.refl _ _
  clear hc
  go_enter Try.func7, Try.ntmps7
  go_wp2_with fail
  refine (bytes_yes s n _ h).mono ?_
  rintro e w' ⟨rfl, hw⟩
  obtain rfl := hw.symm
  go_wp2_with fail
  refine (code_is s false _ HC.out).mono ?_
  rintro e wa ⟨rfl, hba⟩
  have BA : Hid (Below w.heap.size w wa) := B0.out.trans (hba.mono B0.out.size)
  clear hba
  go_wp2
  go_ret
  exact ⟨rfl, BA.out⟩
set_option maxHeartbeats 1600000 in
theorem in_no (s : ByteArray) (n : Nat) (w : World) (h : s.size ≤ 1048576) (hn : n ≤ 999999) (hc : codeB s = false) :
    Calls Try.prog 7 #[.string s, .int .i64 n] w fun e w' => e = .returned (.bool true) ∧ Below w.heap.size w w' := by
  have HC : Hid (codeB s = false) := hc
  clear hc
  go_enter Try.func7, Try.ntmps7
  go_wp2_with fail
  refine (bytes_yes s n _ h).mono ?_
  rintro e w' ⟨rfl, hw⟩
  obtain rfl := hw.symm
  go_wp2_with fail
  refine (pad_is n _ hn).mono ?_
  rintro e w1 ⟨p, rfl, ⟨hp6, hpc⟩, hb1⟩
  have HP : Hid (codeB p = true) := hpc
  have H6 : Hid (p.size = 6) := hp6
  have B1 : Hid (Below w.heap.size w w1) := hb1
  have hp5 : 5 ≤ p.size := by omega
  have hp5' : (5 : Int) ≤ (p.size : Int) := by omega
  clear hpc hp6 hb1
  go_wp2_with fail
  refine (code_is p true _ HP.out).mono ?_
  rintro e w2 ⟨rfl, hb2⟩
  have B2 : Hid (Below w.heap.size w w2) := B1.out.trans (hb2.mono B1.out.size)
  clear hb2 B1
  go_wp2_with fail
  refine (code_is (p.extract 0 5) false _ (short5 H6.out)).mono ?_
  rintro e w3 ⟨rfl, hb3⟩
  have B3 : Hid (Below w.heap.size w w3) := B2.out.trans (hb3.mono B2.out.size)
  clear hb3 B2
  go_wp2
  go_loopw [6] (fun i wr => ∃ d : Nat, d ≤ 10 ∧ i = .int .i64 d ∧ Hid (Below w.heap.size w wr)) (fun i _ => 10 - (intOf i).toNat)
  case atStart => exact ⟨0, by omega, rfl, B3.out⟩
  case round =>
    obtain ⟨d, hd, rfl, BR⟩ := hrel
    by_cases hlt : (d : Int) < 10
    · go_wp2_with fail
      refine (wd_is p d _ H6.out (by omega)).mono ?_
      rintro e w4 ⟨u, rfl, hu, hb4⟩
      have HU : Hid (codeB u = false) := hu
      have B4 : Hid (Below w.heap.size w w4) := BR.out.trans (hb4.mono BR.out.size)
      clear hu hb4
      go_wp2_with fail
      refine (code_is u false _ HU.out).mono ?_
      rintro e w5 ⟨rfl, hb5⟩
      have B5 : Hid (Below w.heap.size w w5) := B4.out.trans (hb5.mono B4.out.size)
      clear hb5 B4
      go_wp2
      go_roundw
      case rel => exact ⟨d + 1, by omega, by go_num, B5.out⟩
      case measure => simp [intOf]; omega
    · skip
      go_wp2_with fail
      refine (code_is s false _ HC.out).mono ?_
      rintro e wa ⟨rfl, hba⟩
      have BA : Hid (Below w.heap.size w wa) := BR.out.trans (hba.mono BR.out.size)
      clear hba
      go_wp2
      go_ret
      exact ⟨rfl, BA.out⟩
set_option maxHeartbeats 800000 in
theorem out_neg_yes (s : ByteArray) (n : Int) (w : World) (h : s.size ≤ 1048576) (hn : n < 0) (hc : codeB s = true) :
    Calls Try.prog 7 #[.string s, .int .i64 n] w fun e w' => e = .returned (.bool true) ∧ Below w.heap.size w w' := by
  have hv : (val s 6 : Int) ≤ 999999 := by have := val_bound (code_digits hc).2 6 (by omega); omega
  have HC : Hid (codeB s = true) := hc
  have B0 : Hid (Below w.heap.size w w) := Below.refl _ _
  clear hc
  go_enter Try.func7, Try.ntmps7
  go_wp2_with fail
  refine (bytes_yes s n _ h).mono ?_
  rintro e w' ⟨rfl, hw⟩
  obtain rfl := hw.symm
  go_wp2_with fail
  refine (code_is s true _ HC.out).mono ?_
  rintro e wa ⟨rfl, hba⟩
  have BA : Hid (Below w.heap.size w wa) := B0.out.trans (hba.mono B0.out.size)
  clear hba
  go_wp2_with fail
  refine (parse_is s _ HC.out).mono ?_
  rintro e wb ⟨rfl, hwb⟩
  obtain rfl := hwb.symm
  go_wp2_with fail
  refine (pad_back s _ HC.out).mono ?_
  rintro e wc ⟨rfl, hbc⟩
  have BC : Hid (Below w.heap.size w wc) := BA.out.trans (hbc.mono BA.out.size)
  clear hbc
  go_wp2
  go_ret
  exact ⟨rfl, BC.out⟩
set_option maxHeartbeats 800000 in
theorem out_big_yes (s : ByteArray) (n : Int) (w : World) (h : s.size ≤ 1048576) (hn : 999999 < n) (hc : codeB s = true) :
    Calls Try.prog 7 #[.string s, .int .i64 n] w fun e w' => e = .returned (.bool true) ∧ Below w.heap.size w w' := by
  have hv : (val s 6 : Int) ≤ 999999 := by have := val_bound (code_digits hc).2 6 (by omega); omega
  have HC : Hid (codeB s = true) := hc
  have B0 : Hid (Below w.heap.size w w) := Below.refl _ _
  clear hc
  go_enter Try.func7, Try.ntmps7
  go_wp2_with fail
  refine (bytes_yes s n _ h).mono ?_
  rintro e w' ⟨rfl, hw⟩
  obtain rfl := hw.symm
  go_wp2_with fail
  refine (code_is s true _ HC.out).mono ?_
  rintro e wa ⟨rfl, hba⟩
  have BA : Hid (Below w.heap.size w wa) := B0.out.trans (hba.mono B0.out.size)
  clear hba
  go_wp2_with fail
  refine (parse_is s _ HC.out).mono ?_
  rintro e wb ⟨rfl, hwb⟩
  obtain rfl := hwb.symm
  go_wp2_with fail
  refine (pad_back s _ HC.out).mono ?_
  rintro e wc ⟨rfl, hbc⟩
  have BC : Hid (Below w.heap.size w wc) := BA.out.trans (hbc.mono BA.out.size)
  clear hbc
  go_wp2
  go_ret
  exact ⟨rfl, BC.out⟩
set_option maxHeartbeats 1600000 in
theorem in_yes (s : ByteArray) (n : Nat) (w : World) (h : s.size ≤ 1048576) (hn : n ≤ 999999) (hc : codeB s = true) :
    Calls Try.prog 7 #[.string s, .int .i64 n] w fun e w' => e = .returned (.bool true) ∧ Below w.heap.size w w' := by
  have hv : (val s 6 : Int) ≤ 999999 := by have := val_bound (code_digits hc).2 6 (by omega); omega
  have HC : Hid (codeB s = true) := hc
  clear hc
  go_enter Try.func7, Try.ntmps7
  go_wp2_with fail
  refine (bytes_yes s n _ h).mono ?_
  rintro e w' ⟨rfl, hw⟩
  obtain rfl := hw.symm
  go_wp2_with fail
  refine (pad_is n _ hn).mono ?_
  rintro e w1 ⟨p, rfl, ⟨hp6, hpc⟩, hb1⟩
  have HP : Hid (codeB p = true) := hpc
  have H6 : Hid (p.size = 6) := hp6
  have B1 : Hid (Below w.heap.size w w1) := hb1
  have hp5 : 5 ≤ p.size := by omega
  have hp5' : (5 : Int) ≤ (p.size : Int) := by omega
  clear hpc hp6 hb1
  go_wp2_with fail
  refine (code_is p true _ HP.out).mono ?_
  rintro e w2 ⟨rfl, hb2⟩
  have B2 : Hid (Below w.heap.size w w2) := B1.out.trans (hb2.mono B1.out.size)
  clear hb2 B1
  go_wp2_with fail
  refine (code_is (p.extract 0 5) false _ (short5 H6.out)).mono ?_
  rintro e w3 ⟨rfl, hb3⟩
  have B3 : Hid (Below w.heap.size w w3) := B2.out.trans (hb3.mono B2.out.size)
  clear hb3 B2
  go_wp2
  go_loopw [6] (fun i wr => ∃ d : Nat, d ≤ 10 ∧ i = .int .i64 d ∧ Hid (Below w.heap.size w wr)) (fun i _ => 10 - (intOf i).toNat)
  case atStart => exact ⟨0, by omega, rfl, B3.out⟩
  case round =>
    obtain ⟨d, hd, rfl, BR⟩ := hrel
    by_cases hlt : (d : Int) < 10
    · go_wp2_with fail
      refine (wd_is p d _ H6.out (by omega)).mono ?_
      rintro e w4 ⟨u, rfl, hu, hb4⟩
      have HU : Hid (codeB u = false) := hu
      have B4 : Hid (Below w.heap.size w w4) := BR.out.trans (hb4.mono BR.out.size)
      clear hu hb4
      go_wp2_with fail
      refine (code_is u false _ HU.out).mono ?_
      rintro e w5 ⟨rfl, hb5⟩
      have B5 : Hid (Below w.heap.size w w5) := B4.out.trans (hb5.mono B4.out.size)
      clear hb5 B4
      go_wp2
      go_roundw
      case rel => exact ⟨d + 1, by omega, by go_num, B5.out⟩
      case measure => simp [intOf]; omega
    · skip
      go_wp2_with fail
      refine (code_is s true _ HC.out).mono ?_
      rintro e wa ⟨rfl, hba⟩
      have BA : Hid (Below w.heap.size w wa) := BR.out.trans (hba.mono BR.out.size)
      clear hba
      go_wp2_with fail
      refine (parse_is s _ HC.out).mono ?_
      rintro e wb ⟨rfl, hwb⟩
      obtain rfl := hwb.symm
      go_wp2_with fail
      refine (pad_back s _ HC.out).mono ?_
      rintro e wc ⟨rfl, hbc⟩
      have BC : Hid (Below w.heap.size w wc) := BA.out.trans (hbc.mono BA.out.size)
      clear hbc
      go_wp2
      go_ret
      exact ⟨rfl, BC.out⟩
theorem any (s : ByteArray) (n : Int) (w : World) :
    Calls Try.prog 7 #[.string s, .int .i64 n] w fun e w' => e = .returned (.bool true) ∧ Below w.heap.size w w' := by
  by_cases h : s.size ≤ 1048576
  · by_cases hc : codeB s = true
    · by_cases h1 : n < 0
      · exact out_neg_yes s n w h h1 hc
      · by_cases h2 : 999999 < n
        · exact out_big_yes s n w h h2 hc
        · obtain ⟨m, rfl⟩ : ∃ m : Nat, n = m := ⟨n.toNat, by omega⟩
          exact in_yes s m w h (by omega) hc
    · have hc' : codeB s = false := by simpa using hc
      by_cases h1 : n < 0
      · exact out_neg_no s n w h h1 hc'
      · by_cases h2 : 999999 < n
        · exact out_big_no s n w h h2 hc'
        · obtain ⟨m, rfl⟩ : ∃ m : Nat, n = m := ⟨n.toNat, by omega⟩
          exact in_no s m w h (by omega) hc'
  · exact far s n w (by omega)
end Pad
end Go.Proofs.Qxb6600035a
