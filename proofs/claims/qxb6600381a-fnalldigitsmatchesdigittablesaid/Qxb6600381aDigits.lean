/-
  The walks of allDigits (19), ZZallDigits (11): 'one byte or more, each an ASCII digit'.
-/
import Derived.Test.Qxb6600381aRows
import Derived.WalkKit
import Derived.WalkSpells
import Derived.WalkLawsBesides
namespace Go.Proofs.Qxb6600381a
open Go.RowKit

/-- A byte that is an ASCII digit. -/
def digB (c : UInt8) : Bool := decide (48 ≤ c.toNat ∧ c.toNat ≤ 57)
/-- One byte or more, each a digit. -/
def adB (s : ByteArray) : Bool := decide (0 < s.size) && s.data.toList.all digB

theorem adB_none {s : ByteArray} (h : s.size = 0) : adB s = false := by simp [adB, h]
theorem adB_no {s : ByteArray} {k : Nat} (hk : k < s.size) (h : digB s[k] = false) : adB s = false := by
  have : s.data.toList.all digB = false := by
    rw [List.all_eq_false]
    refine ⟨s[k], ?_, by simp [h]⟩
    show s.data[k] ∈ _
    simp
  simp [adB, this]
theorem adB_yes {s : ByteArray} (h0 : 0 < s.size) (h : ∀ k (hk : k < s.size), digB s[k] = true) : adB s = true := by
  have : s.data.toList.all digB = true := by
    rw [List.all_eq_true]
    intro x hx
    obtain ⟨k, hk, rfl⟩ := List.mem_iff_getElem.1 hx
    have hk' : k < s.size := by simpa using hk
    have := h k hk'
    simp only [Array.getElem_toList]
    exact this
  simp [adB, this, h0]
theorem empty_of {s : ByteArray} (h : s.size = 0) : s = ⟨#[]⟩ := by
  apply ByteArray.ext
  exact Array.eq_empty_of_size_eq_zero h

set_option maxHeartbeats 400000 in
theorem all_none (w : World) :
    Calls Try.prog 19 #[.string ⟨#[]⟩] w fun e w' => e = .returned (.bool false) ∧ w' = w := by
  go_enter Try.func19, Try.ntmps19
  go_wp2
  go_ret
  exact ⟨rfl, rfl⟩

set_option maxHeartbeats 400000 in
theorem all_some (s : ByteArray) (w : World) (hm : s.size ≤ maxLen) (h0 : 0 < s.size) :
    Calls Try.prog 19 #[.string s] w fun e w' => e = .returned (.bool (adB s)) ∧ w' = w := by
  unfold maxLen at hm
  have hne : s.toList.isEmpty = false := by
    rw [ByteArray.toList_eq]
    cases h : s.data.toList with
    | nil => have e : s.data.size = 0 := by rw [← Array.length_toList, h]; rfl
             exact absurd h0 (by show ¬ 0 < s.data.size; omega)
    | cons => rfl
  have H0 : Hid (0 < s.size) := h0
  clear h0
  go_enter Try.func19, Try.ntmps19
  go_wp2
  go_loop [3] (fun i => ∃ k : Nat, k ≤ s.size ∧ i = .int .i64 k ∧ Hid (∀ j (hj : j < s.size), j < k → digB s[j] = true)) (fun i => s.size - (intOf i).toNat)
  case atStart => exact ⟨0, Nat.zero_le _, rfl, fun j hj h => absurd h (by omega)⟩
  case round =>
    obtain ⟨k, hk, rfl, HD⟩ := hrel
    by_cases hlt : k < s.size
    · have hlt' : (k : Int) < (s.size : Int) := by omega
      by_cases hdg : digB s[k] = true
      · have h2 : 48 ≤ s[k].toNat ∧ s[k].toNat ≤ 57 := by simpa [digB] using hdg
        have HG : Hid (digB s[k] = true) := hdg
        have h3 : ¬ (s[k].toNat : Int) < 48 := by omega
        have h4 : ¬ 57 < (s[k].toNat : Int) := by omega
        clear hdg h2
        go_wp2
        go_round
        case rel =>
          refine ⟨k + 1, by omega, by go_num, fun j hj hk1 => ?_⟩
          by_cases e : j = k
          · subst e; exact HG.out
          · exact HD.out j hj (by omega)
        case measure => simp [intOf]; omega
      · have hno : digB s[k] = false := by simpa using hdg
        have HC : Hid (adB s = false) := adB_no hlt hno
        have h2 : ¬ (48 ≤ s[k].toNat ∧ s[k].toNat ≤ 57) := by simpa [digB] using hno
        clear hdg hno
        by_cases h3 : (s[k].toNat : Int) < 48
        · clear h2
          go_wp2
          go_ret
          exact ⟨by rw [HC.out]; rfl, rfl⟩
        · have h4 : 57 < (s[k].toNat : Int) := by omega
          clear h2
          go_wp2
          go_ret
          exact ⟨by rw [HC.out]; rfl, rfl⟩
    · have HC : Hid (adB s = true) := adB_yes H0.out (fun j hj => HD.out j hj (by omega))
      go_wp2
      go_ret
      exact ⟨by rw [HC.out]; rfl, rfl⟩

theorem all_any (s : ByteArray) (w : World) (hm : s.size ≤ maxLen) :
    Calls Try.prog 19 #[.string s] w fun e w' => e = .returned (.bool (adB s)) ∧ w' = w := by
  by_cases h : s.size = 0
  · rw [adB_none h, empty_of h]
    exact all_none w
  · exact all_some s w hm (by omega)

set_option maxHeartbeats 400000 in
theorem zzAll_any (s : ByteArray) (w : World) (hm : s.size ≤ maxLen) :
    Calls Try.prog 11 #[.string s] w fun e w' => e = .returned (.bool (adB s)) ∧ w' = w := by
  go_enter Try.func11, Try.ntmps11
  go_wp2_with (go_at_call 19; refine (all_any _ _ hm).mono ?_; rintro e w' ⟨rfl, hw⟩; obtain rfl := hw.symm)
  go_ret
  exact ⟨rfl, rfl⟩
end Go.Proofs.Qxb6600381a
