/-
  The walk of FnEqualFoldMatchesBitModel (3).
-/
import Derived.Test.Qxb6600035aFold
namespace Go.Proofs.Qxb6600035a
open Go.RowKit
set_option maxHeartbeats 400000 in
theorem bytes2_yes (a b : ByteArray) (w : World) (h : a.size + b.size ≤ 1048576) :
    Calls Try.prog 11 #[.string a, .string b] w fun e w' => e = .returned (.bool true) ∧ w' = w := by
  go_enter Try.func11, Try.ntmps11
  go_wp2
  go_ret
  exact ⟨rfl, rfl⟩
set_option maxHeartbeats 400000 in
theorem bytes2_no (a b : ByteArray) (w : World) (ha : a.size ≤ maxLen) (hb : b.size ≤ maxLen) (h : ¬ a.size + b.size ≤ 1048576) :
    Calls Try.prog 11 #[.string a, .string b] w fun e w' => e = .returned (.bool false) ∧ w' = w := by
  unfold maxLen at ha hb
  by_cases h1 : a.size ≤ 1048576
  · by_cases h2 : b.size ≤ 1048576
    · go_enter Try.func11, Try.ntmps11
      go_wp2
      go_ret
      exact ⟨rfl, rfl⟩
    · go_enter Try.func11, Try.ntmps11
      go_wp2
      go_ret
      exact ⟨rfl, rfl⟩
  · go_enter Try.func11, Try.ntmps11
    go_wp2
    go_ret
    exact ⟨rfl, rfl⟩

set_option maxHeartbeats 400000 in
theorem fm_no (a b : ByteArray) (w : World) (ha : a.size ≤ maxLen) (hb : b.size ≤ maxLen) (h : ¬ a.size + b.size ≤ 1048576) :
    Calls Try.prog 3 #[.string a, .string b] w fun e w' => e = .returned (.bool true) ∧ Below w.heap.size w w' := by
  go_enter Try.func3, Try.ntmps3
  go_wp2_with (go_at_call 11; refine (bytes2_no _ _ _ ha hb h).mono ?_; rintro e w' ⟨rfl, rfl⟩)
  go_ret
  exact ⟨rfl, Below.refl _ _⟩
set_option maxHeartbeats 400000 in
theorem fm_long (a b : ByteArray) (w : World) (h : a.size + b.size ≤ 1048576) (h2 : 524288 < a.size ∨ 524288 < b.size) :
    Calls Try.prog 3 #[.string a, .string b] w fun e w' => e = .returned (.bool true) ∧ Below w.heap.size w w' := by
  by_cases h3 : 524288 < a.size
  · clear h2
    go_enter Try.func3, Try.ntmps3
    go_wp2_with (go_at_call 11; refine (bytes2_yes _ _ _ h).mono ?_; rintro e w' ⟨rfl, rfl⟩)
    go_ret
    exact ⟨rfl, Below.refl _ _⟩
  · have h4 : 524288 < b.size := by omega
    clear h2
    go_enter Try.func3, Try.ntmps3
    go_wp2_with (go_at_call 11; refine (bytes2_yes _ _ _ h).mono ?_; rintro e w' ⟨rfl, rfl⟩)
    go_ret
    exact ⟨rfl, Below.refl _ _⟩
theorem small_max {n : Nat} (h : n ≤ 1048576) : n ≤ maxLen := by unfold maxLen; omega
set_option maxHeartbeats 400000 in
theorem fm_diff (a b : ByteArray) (w : World) (h : a.size + b.size ≤ 1048576) (h1 : a.size ≤ 524288) (h2 : b.size ≤ 524288) (hne : a.size ≠ b.size) :
    Calls Try.prog 3 #[.string a, .string b] w fun e w' => e = .returned (.bool true) ∧ Below w.heap.size w w' := by
  have hq : ((a.size : Int) == (b.size : Int)) = false := by simp; omega
  have HF : Hid (foldB a b = false) := foldB_size hne
  have HM : Hid (a.size ≤ maxLen) := small_max (by omega)
  go_enter Try.func3, Try.ntmps3
  go_wp2_with (first | (go_at_call 11; refine (bytes2_yes _ _ _ h).mono ?_; rintro e w' ⟨rfl, rfl⟩) | (go_at_call 13; refine (zzFold_any _ _ _ HM.out).mono ?_; rintro e w' ⟨rfl, hb⟩))
  go_ret
  exact ⟨by rw [HF.out]; rfl, hb⟩
set_option maxHeartbeats 800000 in
theorem fm_same (a b : ByteArray) (w : World) (h : a.size + b.size ≤ 1048576) (h1 : a.size ≤ 524288) (_h2 : b.size ≤ 524288) (hne : a.size = b.size) :
    Calls Try.prog 3 #[.string a, .string b] w fun e w' => e = .returned (.bool true) ∧ Below w.heap.size w w' := by
  have hq : ((a.size : Int) == (b.size : Int)) = true := by simp [hne]
  have HS : Hid (a.size = b.size) := hne
  have hle : a.size ≤ b.size := by omega
  have hle2 : b.size ≤ a.size := by omega
  have HM : Hid (a.size ≤ maxLen) := small_max (by omega)
  clear hne
  go_enter Try.func3, Try.ntmps3
  go_wp2_with (go_at_call 11; refine (bytes2_yes _ _ _ h).mono ?_; rintro e w' ⟨rfl, hw⟩; obtain rfl := hw.symm)
  go_loopw [5, 6] (fun want i wr => ∃ k : Nat, k ≤ a.size ∧ want = .bool true ∧ i = .int .i64 k ∧ Below w.heap.size w wr ∧ ∀ j (ha : j < a.size) (hb : j < b.size), j < k → lowN a[j] = lowN b[j]) (fun _ i _ => a.size - (intOf i).toNat)
  case atStart => exact ⟨0, Nat.zero_le _, rfl, rfl, Below.refl _ _, fun j _ _ h => absurd h (by omega)⟩
  case round =>
    rename_i wr _
    obtain ⟨k, hk, rfl, rfl, hbl, he⟩ := hrel
    have HE : Hid (∀ j (ha : j < a.size) (hb : j < b.size), j < k → lowN a[j] = lowN b[j]) := he
    clear he
    by_cases hlt : k < a.size
    · have hlt1 : (k : Int) < (a.size : Int) := by omega
      have hltb : k < b.size := by omega
      have hlt2 : (k : Int) < (b.size : Int) := by omega
      by_cases heq : lowN a[k] = lowN b[k]
      · have hd : decide (lowN a[k] = lowN b[k]) = true := by simp [heq]
        have HQ : Hid (lowN a[k] = lowN b[k]) := heq
        have cm := fun w => caseMates_any a[k] b[k] w
        rw [hd] at cm
        have CM : Hid (∀ w, Calls Try.prog 12 #[.int .u8 a[k].toNat, .int .u8 b[k].toNat] w fun e w' => e = .returned (.bool true) ∧ w' = w) := cm
        clear heq hd cm
        go_wp2
        go_quiet ((go_at_call 12; exact Calls.quiet_of_same (CM.out _)))
        go_wp2
        go_roundw
        case rel =>
          refine ⟨k + 1, by omega, rfl, by go_num, below_drewN hbl _, fun j ha hb hj => ?_⟩
          by_cases e : j = k
          · subst e; exact HQ.out
          · exact HE.out j ha hb (by omega)
        case measure => simp [intOf]; omega
      · have hd : decide (lowN a[k] = lowN b[k]) = false := by simp [heq]
        have HC : Hid (foldB a b = false) := foldB_no hlt hltb heq
        have cm := fun w => caseMates_any a[k] b[k] w
        rw [hd] at cm
        have CM : Hid (∀ w, Calls Try.prog 12 #[.int .u8 a[k].toNat, .int .u8 b[k].toNat] w fun e w' => e = .returned (.bool false) ∧ w' = w) := cm
        clear heq hd cm
        go_wp2
        go_quiet ((go_at_call 12; exact Calls.quiet_of_same (CM.out _)))
        go_wp2_with (go_at_call 13; refine (zzFold_any _ _ _ HM.out).mono ?_; rintro e w' ⟨rfl, hb⟩)
        go_ret
        exact ⟨by rw [HC.out]; rfl, (below_drewN hbl _).trans (hb.mono hbl.size)⟩
    · have HC : Hid (foldB a b = true) := foldB_yes HS.out (fun j ha hb => HE.out j ha hb (by omega))
      go_wp2_with (go_at_call 13; refine (zzFold_any _ _ _ HM.out).mono ?_; rintro e w' ⟨rfl, hb⟩)
      go_ret
      exact ⟨by rw [HC.out]; rfl, hbl.trans (hb.mono hbl.size)⟩
theorem fm_any (a b : ByteArray) (w : World) (ha : a.size ≤ maxLen) (hb : b.size ≤ maxLen) :
    Calls Try.prog 3 #[.string a, .string b] w fun e w' => e = .returned (.bool true) ∧ Below w.heap.size w w' := by
  by_cases h : a.size + b.size ≤ 1048576
  · by_cases h2 : 524288 < a.size ∨ 524288 < b.size
    · exact fm_long a b w h h2
    · by_cases h3 : a.size = b.size
      · exact fm_same a b w h (by omega) (by omega) h3
      · exact fm_diff a b w h (by omega) (by omega) h3
  · exact fm_no a b w ha hb h
end Go.Proofs.Qxb6600035a
