/-
  The walk of validCounter (25).
-/
import Derived.Test.Qxb6600035aRows
import Derived.Test.Qxb6600035aToGoPlain
import Derived.WalkKit
import Derived.WalkSpells
import Derived.WalkLawsBesides
import Derived.Deep.QuietTactic
import Derived.BigQuiet
import Derived.Deep.OwnRows
namespace Go.Proofs.Qxb6600035a
open Go.RowKit
open ToGo

def VcSays (size given : Int) (xs : List Int) (e : Ending) : Prop := ∃ v : Bool, e = .returned (.bool v) ∧ (v = true ↔ Valid size given xs)
theorem vcNo {size given : Int} {xs : List Int} (h : ¬ Valid size given xs) : VcSays size given xs (.returned (.bool false)) := ⟨false, rfl, ⟨fun e => (by cases e), fun hv => absurd hv h⟩⟩
theorem vcYes {size given : Int} {xs : List Int} (h : Valid size given xs) : VcSays size given xs (.returned (.bool true)) := ⟨true, rfl, ⟨fun _ => h, fun _ => rfl⟩⟩

set_option maxHeartbeats 800000 in
theorem vc_big (size given : Int) (xs : List Int) (b off c : Nat) (w : World) (h1 : 1 ≤ size) (h2 : size ≤ 9223372036854775807) (h3 : 0 ≤ given) (h4 : given ≤ 9223372036854775807)
    (hw : size < given) (hn : xs.length ≤ 9223372036854775807) (hc : ∀ j, j < xs.length → w.cell? ⟨b, off + j, none⟩ = some (.int .i64 (el xs j))) :
    Calls Try.prog 25 #[.int .i64 size, .int .i64 given, .slice (some ⟨b, off, none⟩) xs.length c] w fun e w' => VcSays size given xs e ∧ w' = w := by
  have HW : Hid (win size given = size) := by unfold Hid win; rw [if_pos hw]
  have HC : Hid (∀ j, j < xs.length → w.cell? ⟨b, off + j, none⟩ = some (.int .i64 (el xs j))) := hc
  clear hc
  go_enter Try.func25, Try.ntmps25
  go_wp2
  go_loop [9] (fun i => ∃ k : Nat, k ≤ xs.length ∧ i = .int .i64 k ∧ ∀ j, j < k → OkAt size given xs j) (fun i => xs.length - (intOf i).toNat)
  case atStart => exact ⟨0, Nat.zero_le _, rfl, fun j h => absurd h (by omega)⟩
  case round =>
    obtain ⟨k, hk, rfl, ho⟩ := hrel
    have HO : Hid (∀ j, j < k → OkAt size given xs j) := ho
    clear ho
    by_cases hlt : k < xs.length
    · have hlt' : (k : Int) < (xs.length : Int) := by omega
      have hck := HC.out k hlt
      have HX : Hid (∀ j, j < xs.length → OkAt size given xs j → (given - size) ≤ el xs j ∧ el xs j ≤ given - 1 ∧ (0 < j → el xs (j - 1) < el xs j)) := fun j _ h => by
        unfold OkAt at h; rw [HW.out] at h; exact ⟨by have := h.1; omega, h.2⟩
      have HY : Hid ((given - size) ≤ el xs k → el xs k ≤ given - 1 → (0 < k → el xs (k - 1) < el xs k) → OkAt size given xs k) := fun a1 a2 a3 => by
        unfold OkAt; rw [HW.out]; exact ⟨by omega, a2, a3⟩
      by_cases ha : el xs k < given - size
      · go_wp2
        go_ret
        exact ⟨vcNo (fun hv => absurd (HX.out k hlt (hv.2.2 k hlt)).1 (by omega)), rfl⟩
      · by_cases hb : given - 1 < el xs k
        · go_wp2
          go_ret
          exact ⟨vcNo (fun hv => absurd (HX.out k hlt (hv.2.2 k hlt)).2.1 (by omega)), rfl⟩
        · by_cases h0 : (0 : Int) < (k : Int)
          · have hcp : w.cell? ⟨b, off + (k - 1), none⟩ = some (.int .i64 (el xs (k - 1))) := HC.out (k - 1) (by omega)
            have hcp' : w.cell? ⟨b, off + ((k : Int) - 1).toNat, none⟩ = some (.int .i64 (el xs (k - 1))) := by rw [show ((k : Int) - 1).toNat = k - 1 by omega]; exact hcp
            by_cases hd : el xs k ≤ el xs (k - 1)
            · go_wp2
              go_ret
              exact ⟨vcNo (fun hv => absurd ((HX.out k hlt (hv.2.2 k hlt)).2.2 (by omega)) (by omega)), rfl⟩
            · go_wp2
              go_round
              case rel =>
                refine ⟨k + 1, by omega, by go_num, fun j hj => ?_⟩
                by_cases e : j = k
                · subst e; exact HY.out (by omega) (by omega) (fun _ => by omega)
                · exact HO.out j (by omega)
              case measure => simp [intOf]; omega
          · go_wp2
            go_round
            case rel =>
              refine ⟨k + 1, by omega, by go_num, fun j hj => ?_⟩
              by_cases e : j = k
              · subst e; exact HY.out (by omega) (by omega) (fun _ => by omega)
              · exact HO.out j (by omega)
            case measure => simp [intOf]; omega
    · go_wp2
      go_ret
      exact ⟨vcYes ⟨h1, h3, fun j hj => HO.out j (by omega)⟩, rfl⟩
set_option maxHeartbeats 800000 in
theorem vc_few (size given : Int) (xs : List Int) (b off c : Nat) (w : World) (h1 : 1 ≤ size) (h2 : size ≤ 9223372036854775807) (h3 : 0 ≤ given) (h4 : given ≤ 9223372036854775807)
    (hw : ¬ size < given) (hn : xs.length ≤ 9223372036854775807) (hc : ∀ j, j < xs.length → w.cell? ⟨b, off + j, none⟩ = some (.int .i64 (el xs j))) :
    Calls Try.prog 25 #[.int .i64 size, .int .i64 given, .slice (some ⟨b, off, none⟩) xs.length c] w fun e w' => VcSays size given xs e ∧ w' = w := by
  have HW : Hid (win size given = given) := by unfold Hid win; rw [if_neg hw]
  have HC : Hid (∀ j, j < xs.length → w.cell? ⟨b, off + j, none⟩ = some (.int .i64 (el xs j))) := hc
  clear hc
  go_enter Try.func25, Try.ntmps25
  go_wp2
  go_loop [9] (fun i => ∃ k : Nat, k ≤ xs.length ∧ i = .int .i64 k ∧ ∀ j, j < k → OkAt size given xs j) (fun i => xs.length - (intOf i).toNat)
  case atStart => exact ⟨0, Nat.zero_le _, rfl, fun j h => absurd h (by omega)⟩
  case round =>
    obtain ⟨k, hk, rfl, ho⟩ := hrel
    have HO : Hid (∀ j, j < k → OkAt size given xs j) := ho
    clear ho
    by_cases hlt : k < xs.length
    · have hlt' : (k : Int) < (xs.length : Int) := by omega
      have hck := HC.out k hlt
      have HX : Hid (∀ j, j < xs.length → OkAt size given xs j → (0) ≤ el xs j ∧ el xs j ≤ given - 1 ∧ (0 < j → el xs (j - 1) < el xs j)) := fun j _ h => by
        unfold OkAt at h; rw [HW.out] at h; exact ⟨by have := h.1; omega, h.2⟩
      have HY : Hid ((0) ≤ el xs k → el xs k ≤ given - 1 → (0 < k → el xs (k - 1) < el xs k) → OkAt size given xs k) := fun a1 a2 a3 => by
        unfold OkAt; rw [HW.out]; exact ⟨by omega, a2, a3⟩
      by_cases ha : el xs k < 0
      · go_wp2
        go_ret
        exact ⟨vcNo (fun hv => absurd (HX.out k hlt (hv.2.2 k hlt)).1 (by omega)), rfl⟩
      · by_cases hb : given - 1 < el xs k
        · go_wp2
          go_ret
          exact ⟨vcNo (fun hv => absurd (HX.out k hlt (hv.2.2 k hlt)).2.1 (by omega)), rfl⟩
        · by_cases h0 : (0 : Int) < (k : Int)
          · have hcp : w.cell? ⟨b, off + (k - 1), none⟩ = some (.int .i64 (el xs (k - 1))) := HC.out (k - 1) (by omega)
            have hcp' : w.cell? ⟨b, off + ((k : Int) - 1).toNat, none⟩ = some (.int .i64 (el xs (k - 1))) := by rw [show ((k : Int) - 1).toNat = k - 1 by omega]; exact hcp
            by_cases hd : el xs k ≤ el xs (k - 1)
            · go_wp2
              go_ret
              exact ⟨vcNo (fun hv => absurd ((HX.out k hlt (hv.2.2 k hlt)).2.2 (by omega)) (by omega)), rfl⟩
            · go_wp2
              go_round
              case rel =>
                refine ⟨k + 1, by omega, by go_num, fun j hj => ?_⟩
                by_cases e : j = k
                · subst e; exact HY.out (by omega) (by omega) (fun _ => by omega)
                · exact HO.out j (by omega)
              case measure => simp [intOf]; omega
          · go_wp2
            go_round
            case rel =>
              refine ⟨k + 1, by omega, by go_num, fun j hj => ?_⟩
              by_cases e : j = k
              · subst e; exact HY.out (by omega) (by omega) (fun _ => by omega)
              · exact HO.out j (by omega)
            case measure => simp [intOf]; omega
    · go_wp2
      go_ret
      exact ⟨vcYes ⟨h1, h3, fun j hj => HO.out j (by omega)⟩, rfl⟩
end Go.Proofs.Qxb6600035a
