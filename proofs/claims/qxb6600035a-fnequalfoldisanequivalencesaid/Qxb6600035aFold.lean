/-
  The walks of lowerASCII (34), equalFoldASCII (31), ZZEqualFoldASCII (13), caseMates (12).
-/
import Derived.Test.Qxb6600035aRows
import Derived.WalkKit
import Derived.WalkSpells
import Derived.WalkLawsBesides
import Derived.Deep.QuietTactic
import Derived.BigQuiet
namespace Go.Proofs.Qxb6600035a
open Go.RowKit

/-- A byte in lower case, as a number. -/
def lowNat (n : Nat) : Nat := if 65 ≤ n ∧ n ≤ 90 then n + 32 else n
def lowN (c : UInt8) : Nat := lowNat c.toNat
def lowL (s : ByteArray) : List Nat := s.data.toList.map lowN
/-- One text but for the case of ASCII letters. -/
def foldB (a b : ByteArray) : Bool := decide (lowL a = lowL b)

theorem lowL_length (s : ByteArray) : (lowL s).length = s.size := by simp [lowL]
theorem lowL_get (s : ByteArray) (k : Nat) (h : k < s.size) : (lowL s)[k]'(by rw [lowL_length]; exact h) = lowN s[k] := by
  simp only [lowL, List.getElem_map, Array.getElem_toList]
  rfl
theorem foldB_size {a b : ByteArray} (h : a.size ≠ b.size) : foldB a b = false := by
  refine decide_eq_false fun e => h ?_
  have := congrArg List.length e
  simpa [lowL_length] using this
theorem foldB_no {a b : ByteArray} {k : Nat} (ha : k < a.size) (hb : k < b.size) (h : lowN a[k] ≠ lowN b[k]) : foldB a b = false := by
  refine decide_eq_false fun e => h ?_
  rw [← lowL_get a k ha, ← lowL_get b k hb]
  simp only [e]
theorem foldB_yes {a b : ByteArray} (h : a.size = b.size) (he : ∀ k (ha : k < a.size) (hb : k < b.size), lowN a[k] = lowN b[k]) : foldB a b = true := by
  refine decide_eq_true (List.ext_getElem (by simpa [lowL_length] using h) fun k h1 h2 => ?_)
  have ha : k < a.size := by simpa [lowL_length] using h1
  have hb : k < b.size := by simpa [lowL_length] using h2
  rw [lowL_get a k ha, lowL_get b k hb]
  exact he k ha hb

theorem ret_int {k : IntKind} {a b : Int} (h : a = b) : Ending.returned (.int k a) = .returned (.int k b) := by rw [h]
theorem ret_bool {a b : Bool} (h : a = b) : Ending.returned (.bool a) = .returned (.bool b) := by rw [h]

set_option maxHeartbeats 400000 in
theorem lower_any (c : UInt8) (w : World) :
    Calls Try.prog 34 #[.int .u8 c.toNat] w fun e w' => e = .returned (.int .u8 (lowN c)) ∧ w' = w := by
  have hc : c.toNat < 256 := c.toNat_lt
  by_cases h1 : (65 : Int) ≤ (c.toNat : Int)
  · by_cases h2 : (c.toNat : Int) ≤ 90
    · have HL : Hid (lowN c = c.toNat + 32) := by unfold Hid lowN lowNat; rw [if_pos (by omega)]
      go_enter Try.func34, Try.ntmps34
      go_wp2
      go_ret
      refine ⟨?_, rfl⟩
      rw [HL.out]
      exact ret_int (by omega)
    · have HL : Hid (lowN c = c.toNat) := by unfold Hid lowN lowNat; rw [if_neg (by omega)]
      go_enter Try.func34, Try.ntmps34
      go_wp2
      go_ret
      exact ⟨by rw [HL.out]; rfl, rfl⟩
  · have HL : Hid (lowN c = c.toNat) := by unfold Hid lowN lowNat; rw [if_neg (by omega)]
    go_enter Try.func34, Try.ntmps34
    go_wp2
    go_ret
    exact ⟨by rw [HL.out]; rfl, rfl⟩

/-! The plain law of caseMates -/
theorem mate_flip : ∀ X : Fin 256, (97 ≤ X.1 ||| 32 ∧ X.1 ||| 32 ≤ 122) ↔ lowNat X.1 = lowNat (X.1 ^^^ 32) := by decide +kernel
theorem mate_up : ∀ X : Fin 256, 65 ≤ X.1 → X.1 ≤ 90 → X.1 ^^^ (X.1 + 32) = 32 ∧ (X.1 + 32) ^^^ X.1 = 32 := by decide +kernel
theorem mate_far {X Y : Nat} (hX : X < 256) (hY : Y < 256) (hne : X ≠ Y) (hx : X ^^^ Y ≠ 32) : lowNat X ≠ lowNat Y := by
  intro h
  unfold lowNat at h
  by_cases a : 65 ≤ X ∧ X ≤ 90
  · by_cases b : 65 ≤ Y ∧ Y ≤ 90
    · rw [if_pos a, if_pos b] at h; omega
    · rw [if_pos a, if_neg b] at h
      have := (mate_up ⟨X, hX⟩ a.1 a.2).1
      simp only at this
      rw [h] at this
      exact hx this
  · by_cases b : 65 ≤ Y ∧ Y ≤ 90
    · rw [if_neg a, if_pos b] at h
      have := (mate_up ⟨Y, hY⟩ b.1 b.2).2
      simp only at this
      rw [← h] at this
      exact hx this
    · rw [if_neg a, if_neg b] at h; exact hne h
theorem mate_near {X Y : Nat} (hX : X < 256) (hx : X ^^^ Y = 32) : lowNat X = lowNat Y ↔ (97 ≤ X ||| 32 ∧ X ||| 32 ≤ 122) := by
  have hy : Y = X ^^^ 32 := by rw [← hx, ← Nat.xor_assoc, Nat.xor_self, Nat.zero_xor]
  rw [hy]
  exact (mate_flip ⟨X, hX⟩).symm

set_option maxHeartbeats 400000 in
theorem caseMates_any (x y : UInt8) (w : World) :
    Calls Try.prog 12 #[.int .u8 x.toNat, .int .u8 y.toNat] w fun e w' => e = .returned (.bool (decide (lowN x = lowN y))) ∧ w' = w := by
  have hx : x.toNat < 256 := x.toNat_lt
  have hy : y.toNat < 256 := y.toNat_lt
  have ex : bits .xor .u8 (x.toNat : Int) (y.toNat : Int) = ((x.toNat ^^^ y.toNat : Nat) : Int) := u8_xor_nat _ _ hx hy
  have eo : bits .or .u8 (x.toNat : Int) 32 = ((x.toNat ||| 32 : Nat) : Int) := u8_or_nat _ 32 hx (by omega)
  have EX : Hid (bits .xor .u8 (x.toNat : Int) (y.toNat : Int) = ((x.toNat ^^^ y.toNat : Nat) : Int)) := ex
  have EO : Hid (bits .or .u8 (x.toNat : Int) 32 = ((x.toNat ||| 32 : Nat) : Int)) := eo
  clear ex eo
  by_cases h : x.toNat = y.toNat
  · have hb : ((x.toNat : Int) == (y.toNat : Int)) = true := by simp [h]
    have HL : Hid (decide (lowN x = lowN y) = true) := by unfold Hid lowN; rw [h]; simp
    clear h
    go_enter Try.func12, Try.ntmps12
    go_wp2
    go_ret
    exact ⟨by rw [HL.out]; rfl, rfl⟩
  · have hb : ((x.toNat : Int) == (y.toNat : Int)) = false := by simp; omega
    by_cases h2 : x.toNat ^^^ y.toNat = 32
    · have hb2 : (bits .xor .u8 (x.toNat : Int) (y.toNat : Int) != 32) = false := by rw [EX.out, h2]; rfl
      have hn := mate_near hx h2
      have HN : Hid (lowN x = lowN y ↔ (97 ≤ x.toNat ||| 32 ∧ x.toNat ||| 32 ≤ 122)) := hn
      clear hn h h2
      go_enter Try.func12, Try.ntmps12
      go_wp2
      · have h1 : 97 ≤ bits BinOp.or IntKind.u8 (↑x.toNat) 32 := by assumption
        go_ret
        refine ⟨ret_bool ?_, rfl⟩
        rw [EO.out] at h1 ⊢
        rw [decide_eq_decide, HN.out]
        omega
      · have h1 : bits BinOp.or IntKind.u8 (↑x.toNat) 32 < 97 := by assumption
        go_ret
        refine ⟨ret_bool ?_, rfl⟩
        rw [EO.out] at h1
        refine (decide_eq_false ?_).symm
        rw [HN.out]
        omega
    · have hb2 : (bits .xor .u8 (x.toNat : Int) (y.toNat : Int) != 32) = true := by rw [EX.out]; simp; omega
      have HL : Hid (decide (lowN x = lowN y) = false) := decide_eq_false (mate_far hx hy h h2)
      clear h h2
      go_enter Try.func12, Try.ntmps12
      go_wp2
      go_ret
      exact ⟨by rw [HL.out]; rfl, rfl⟩

set_option maxHeartbeats 400000 in
theorem equalFold_short (a b : ByteArray) (w : World) (h : a.size ≠ b.size) :
    Calls Try.prog 31 #[.string a, .string b] w fun e w' => e = .returned (.bool (foldB a b)) ∧ Below w.heap.size w w' := by
  have hne : ((a.size : Int) == (b.size : Int)) = false := by simp; omega
  rw [foldB_size h]
  clear h
  go_enter Try.func31, Try.ntmps31
  go_wp2
  go_ret
  exact ⟨rfl, Below.refl _ _⟩

set_option maxHeartbeats 400000 in
theorem equalFold_same (a b : ByteArray) (w : World) (hm : a.size ≤ maxLen) (h : a.size = b.size) :
    Calls Try.prog 31 #[.string a, .string b] w fun e w' => e = .returned (.bool (foldB a b)) ∧ Below w.heap.size w w' := by
  unfold maxLen at hm
  have HS : Hid (a.size = b.size) := h
  have hne : ((a.size : Int) == (b.size : Int)) = true := by simp [h]
  have hle : a.size ≤ b.size := by omega
  have hle2 : b.size ≤ a.size := by omega
  clear h
  go_enter Try.func31, Try.ntmps31
  go_wp2
  go_loopw [5] (fun i wr => ∃ k : Nat, k ≤ a.size ∧ i = .int .i64 k ∧ Below w.heap.size w wr ∧ ∀ j (ha : j < a.size) (hb : j < b.size), j < k → lowN a[j] = lowN b[j]) (fun i _ => a.size - (intOf i).toNat)
  case atStart => exact ⟨0, Nat.zero_le _, rfl, Below.refl _ _, fun j _ _ h => absurd h (by omega)⟩
  case round =>
    rename_i wr _
    obtain ⟨k, hk, rfl, hbl, he⟩ := hrel
    have HE : Hid (∀ j (ha : j < a.size) (hb : j < b.size), j < k → lowN a[j] = lowN b[j]) := he
    clear he
    by_cases hlt : k < a.size
    · have hlt1 : (k : Int) < (a.size : Int) := by omega
      have hltb : k < b.size := by omega
      have hlt2 : (k : Int) < (b.size : Int) := by omega
      by_cases heq : lowN a[k] = lowN b[k]
      · have hq : ((lowN a[k] : Int) == (lowN b[k] : Int)) = true := by simp [heq]
        have HQ : Hid (lowN a[k] = lowN b[k]) := heq
        clear heq
        go_wp2
        go_quiet ((go_at_call 34; exact Calls.quiet_of_same (lower_any _ _)))
        go_wp2
        go_roundw
        case rel =>
          refine ⟨k + 1, by omega, by go_num, below_drewN hbl _, fun j ha hb hj => ?_⟩
          by_cases e : j = k
          · subst e; exact HQ.out
          · exact HE.out j ha hb (by omega)
        case measure => simp [intOf]; omega
      · have hq : ((lowN a[k] : Int) == (lowN b[k] : Int)) = false := by simp; omega
        have HC : Hid (foldB a b = false) := foldB_no hlt hltb heq
        clear heq
        go_wp2
        go_quiet ((go_at_call 34; exact Calls.quiet_of_same (lower_any _ _)))
        go_wp2
        go_ret
        exact ⟨by rw [HC.out]; rfl, below_drewN hbl _⟩
    · have HC : Hid (foldB a b = true) := foldB_yes HS.out (fun j ha hb => HE.out j ha hb (by omega))
      go_wp2
      go_ret
      exact ⟨by rw [HC.out]; rfl, hbl⟩

theorem equalFold_any (a b : ByteArray) (w : World) (hm : a.size ≤ maxLen) :
    Calls Try.prog 31 #[.string a, .string b] w fun e w' => e = .returned (.bool (foldB a b)) ∧ Below w.heap.size w w' := by
  by_cases h : a.size = b.size
  · exact equalFold_same a b w hm h
  · exact equalFold_short a b w h

set_option maxHeartbeats 400000 in
theorem zzFold_any (a b : ByteArray) (w : World) (hm : a.size ≤ maxLen) :
    Calls Try.prog 13 #[.string a, .string b] w fun e w' => e = .returned (.bool (foldB a b)) ∧ Below w.heap.size w w' := by
  go_enter Try.func13, Try.ntmps13
  go_wp2_with (go_at_call 31; refine (equalFold_any _ _ _ hm).mono ?_; rintro e w' ⟨rfl, hb⟩)
  go_ret
  exact ⟨rfl, hb⟩
end Go.Proofs.Qxb6600035a
