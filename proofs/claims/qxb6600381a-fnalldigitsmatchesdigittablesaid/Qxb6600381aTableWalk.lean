/-
  The walks of isDigitByteModel (10) and FnAllDigitsMatchesDigitTable (3).
-/
import Derived.Test.Qxb6600381aDigits
namespace Go.Proofs.Qxb6600381a
open Go.RowKit
namespace Table

set_option maxHeartbeats 400000 in
theorem digit_yes (c : UInt8) (w : World) (h : digB c = true) :
    Calls Try.prog 10 #[.int .u8 c.toNat] w fun e w' => e = .returned (.bool true) ∧ w' = w := by
  have hd : 48 ≤ c.toNat ∧ c.toNat ≤ 57 := of_decide_eq_true h
  have HD : Hid (48 ≤ c.toNat ∧ c.toNat ≤ 57) := hd
  clear hd h
  go_enter Try.func10, Try.ntmps10
  go_wp2
  all_goals go_ret
  all_goals first | exact ⟨rfl, rfl⟩ | (exfalso; have := HD.out; simp at *; omega)

set_option maxHeartbeats 400000 in
theorem digit_no (c : UInt8) (w : World) (h : digB c = false) :
    Calls Try.prog 10 #[.int .u8 c.toNat] w fun e w' => e = .returned (.bool false) ∧ w' = w := by
  have hd : ¬ (48 ≤ c.toNat ∧ c.toNat ≤ 57) := of_decide_eq_false h
  have h0 : ((c.toNat : Int) == 48) = false := by simp; omega
  have h1 : ((c.toNat : Int) == 49) = false := by simp; omega
  have h2 : ((c.toNat : Int) == 50) = false := by simp; omega
  have h3 : ((c.toNat : Int) == 51) = false := by simp; omega
  have h4 : ((c.toNat : Int) == 52) = false := by simp; omega
  have h5 : ((c.toNat : Int) == 53) = false := by simp; omega
  have h6 : ((c.toNat : Int) == 54) = false := by simp; omega
  have h7 : ((c.toNat : Int) == 55) = false := by simp; omega
  have h8 : ((c.toNat : Int) == 56) = false := by simp; omega
  have h9 : ((c.toNat : Int) == 57) = false := by simp; omega
  clear hd h
  go_enter Try.func10, Try.ntmps10
  go_wp2
  go_ret
  exact ⟨rfl, rfl⟩
set_option maxHeartbeats 400000 in
theorem bytes_yes (s : ByteArray) (w : World) (h : s.size ≤ 1048576) :
    Calls Try.prog 9 #[.string s] w fun e w' => e = .returned (.bool true) ∧ w' = w := by
  go_enter Try.func9, Try.ntmps9
  go_wp2
  go_ret
  exact ⟨rfl, rfl⟩
set_option maxHeartbeats 400000 in
theorem bytes_no (s : ByteArray) (w : World) (h : 1048576 < s.size) :
    Calls Try.prog 9 #[.string s] w fun e w' => e = .returned (.bool false) ∧ w' = w := by
  go_enter Try.func9, Try.ntmps9
  go_wp2
  go_ret
  exact ⟨rfl, rfl⟩
set_option maxHeartbeats 400000 in
theorem far (s : ByteArray) (w : World) (h : 1048576 < s.size) :
    Calls Try.prog 3 #[.string s] w fun e w' => e = .returned (.bool true) ∧ Below w.heap.size w w' := by
  go_enter Try.func3, Try.ntmps3
  go_wp2_with (go_at_call 9; refine (bytes_no _ _ h).mono ?_; rintro e w' ⟨rfl, rfl⟩)
  go_ret
  exact ⟨rfl, Below.refl _ _⟩
theorem zz_is (s : ByteArray) (v : Bool) (w : World) (hm : s.size ≤ 1048576) (h : adB s = v) :
    Calls Try.prog 11 #[.string s] w fun e w' => e = .returned (.bool v) ∧ w' = w :=
  (zzAll_any s w (by unfold maxLen; omega)).mono fun e w' ⟨he, hw⟩ => ⟨by rw [he, h], hw⟩
theorem adB_some {s : ByteArray} (h : ¬ ∀ j (hj : j < s.size), digB s[j] = true) : adB s = false := by
  cases e : adB s with
  | false => rfl
  | true =>
    refine absurd (fun j hj => ?_) h
    cases e2 : digB s[j] with
    | true => rfl
    | false => rw [adB_no hj e2] at e; cases e

set_option maxHeartbeats 800000 in
theorem near (s : ByteArray) (w : World) (h : s.size ≤ 1048576) :
    Calls Try.prog 3 #[.string s] w fun e w' => e = .returned (.bool true) ∧ Below w.heap.size w w' := by
  go_enter Try.func3, Try.ntmps3
  go_wp2_with (go_at_call 9; refine (bytes_yes _ _ h).mono ?_; rintro e w' ⟨rfl, hw⟩; obtain rfl := hw.symm)
  go_loop [3, 4] (fun n i => ∃ k m : Nat, k ≤ s.size ∧ m ≤ k ∧ n = .int .i64 m ∧ i = .int .i64 k ∧ Hid (m = k ↔ ∀ j (hj : j < s.size), j < k → digB s[j] = true)) (fun _ i => s.size - (intOf i).toNat)
  case atStart => exact ⟨0, 0, Nat.zero_le _, Nat.le_refl _, rfl, rfl, ⟨fun _ j _ hj => absurd hj (by omega), fun _ => rfl⟩⟩
  case round =>
    obtain ⟨k, m, hk, hm, rfl, rfl, HM⟩ := hrel
    by_cases hlt : k < s.size
    · have hlt' : (k : Int) < (s.size : Int) := by omega
      cases hdg : digB s[k] with
      | true =>
        have HG : Hid (digB s[k] = true) := hdg
        clear hdg
        go_wp2_with (go_at_call 10; refine (digit_yes _ _ HG.out).mono ?_; rintro e w' ⟨rfl, hw⟩; obtain rfl := hw.symm)
        go_round
        case rel =>
          refine ⟨k + 1, m + 1, by omega, by omega, by go_num, by go_num, ⟨fun e j hj hj1 => ?_, fun ha => ?_⟩⟩
          · by_cases e2 : j = k
            · subst e2; exact HG.out
            · exact HM.out.1 (by omega) j hj (by omega)
          · have := HM.out.2 (fun j hj hj1 => ha j hj (by omega))
            omega
        case measure => simp [intOf]; omega
      | false =>
        have HG : Hid (digB s[k] = false) := hdg
        clear hdg
        go_wp2_with (go_at_call 10; refine (digit_no _ _ HG.out).mono ?_; rintro e w' ⟨rfl, hw⟩; obtain rfl := hw.symm)
        go_round
        case rel =>
          refine ⟨k + 1, m, by omega, by omega, rfl, by go_num, ⟨fun e => absurd e (by omega), fun ha => ?_⟩⟩
          have := ha k hlt (by omega)
          rw [HG.out] at this
          cases this
        case measure => simp [intOf]; omega
    · by_cases h0 : s.size = 0
      · have HC : Hid (adB s = false) := adB_none h0
        have h0' : ¬ (0 : Int) < (s.size : Int) := by omega
        clear h0
        go_wp2_with (go_at_call 11; refine (zz_is _ false _ h HC.out).mono ?_; rintro e w' ⟨rfl, hw⟩; obtain rfl := hw.symm)
        go_ret
        exact ⟨rfl, Below.refl _ _⟩
      · have h0' : (0 : Int) < (s.size : Int) := by omega
        by_cases hms : m = s.size
        · have HC : Hid (adB s = true) := adB_yes (by omega) (fun j hj => HM.out.1 (by omega) j hj (by omega))
          have hb : ((m : Int) == (s.size : Int)) = true := by simp [hms]
          clear hms h0
          go_wp2_with (go_at_call 11; refine (zz_is _ true _ h HC.out).mono ?_; rintro e w' ⟨rfl, hw⟩; obtain rfl := hw.symm)
          go_ret
          exact ⟨rfl, Below.refl _ _⟩
        · have HC : Hid (adB s = false) := adB_some (fun ha => hms (by have := HM.out.2 (fun j hj _ => ha j hj); omega))
          have hb : ((m : Int) == (s.size : Int)) = false := by simp; omega
          clear hms h0
          go_wp2_with (go_at_call 11; refine (zz_is _ false _ h HC.out).mono ?_; rintro e w' ⟨rfl, hw⟩; obtain rfl := hw.symm)
          go_ret
          exact ⟨rfl, Below.refl _ _⟩
end Table
end Go.Proofs.Qxb6600381a
