/-
  The walk of modelToGo (28).
-/
import Derived.Test.Qxb6600035aToGoD
import Derived.Test.Qxb6600035aSimPlain
namespace Go.Proofs.Qxb6600035a
open Go.RowKit
open ToGo
namespace Sim

/-- The first day of the window behind k further days. -/
def st (size given k : Int) : Int := if size < given + k then given + k - size else 0
theorem st_big {size given k : Int} (h : size < given + k) : st size given k = given + k - size := by unfold st; rw [if_pos h]
theorem st_few {size given k : Int} (h : given + k ≤ size) : st size given k = 0 := by unfold st; rw [if_neg (by omega)]
theorem st_mono (size given k : Int) : st size given k ≤ st size given (k + 1) := by unfold st; split <;> split <;> omega
theorem ret_at {a b : Int} (h : a = b) : Ending.returned (.int .i64 a) = .returned (.int .i64 b) := by rw [h]

set_option maxHeartbeats 1600000 in
theorem model_some (size given need : Int) (xs : List Int) (b off c : Nat) (w : World) (hv : Valid size given xs) (h2 : size ≤ 65536) (h4 : given ≤ 9223372036854775807 - size)
    (hn : xs.length ≤ 65536) (h5 : 0 ≤ need) (h6 : need ≤ size) (hc : ∀ j, j < xs.length → w.cell? ⟨b, off + j, none⟩ = some (.int .i64 (el xs j))) :
    Calls Try.prog 28 #[.int .i64 size, .int .i64 given, .slice (some ⟨b, off, none⟩) xs.length c, .int .i64 need] w fun e w' => e = .returned (.int .i64 (toGoN size given xs need)) ∧ w' = w := by
  have h1 := hv.1
  have h3 := hv.2.1
  have ht := toGo_bounds hv h5 h6
  have HT : Hid (0 ≤ toGoN size given xs need ∧ toGoN size given xs need ≤ size) := ⟨ht.1, by omega⟩
  have HV : Hid (Valid size given xs) := hv
  have HC : Hid (∀ j, j < xs.length → w.cell? ⟨b, off + j, none⟩ = some (.int .i64 (el xs j))) := hc
  clear hv ht hc
  go_enter Try.func28, Try.ntmps28
  go_wp2
  go_loop [9, 10] (fun vj vk => ∃ j k : Nat, j ≤ xs.length ∧ vj = .int .i64 j ∧ vk = .int .i64 k ∧ Hid ((k : Int) ≤ toGoN size given xs need) ∧ Hid (∀ i, i < j → el xs i < st size given k)) (fun _ vk => (size + 1).toNat - (intOf vk).toNat)
  case atStart => exact ⟨0, 0, Nat.zero_le _, rfl, rfl, HT.out.1, fun i hi => absurd hi (by omega)⟩
  case round =>
    obtain ⟨j0, k, hj0, rfl, rfl, HK, HA0⟩ := hrel
    have hks : (k : Int) ≤ size := by have := HK.out; have := HT.out.2; omega
    by_cases hs : size < given + (k : Int)
    · go_wp2
      go_loop [9] (fun vj => ∃ j : Nat, j ≤ xs.length ∧ vj = .int .i64 j ∧ Hid (∀ i, i < j → el xs i < given + (k : Int) - size)) (fun vj => xs.length - (intOf vj).toNat)
      case atStart => exact ⟨j0, hj0, rfl, fun i hi => by have := HA0.out i hi; rw [st_big hs] at this; exact this⟩
      case round =>
        obtain ⟨j, hjn, rfl, HA⟩ := hrel
        by_cases hlt : j < xs.length
        · have hlt' : (j : Int) < (xs.length : Int) := by omega
          have hcj := HC.out j hlt
          by_cases hel : el xs j < given + (k : Int) - size
          · go_wp2
            go_round
            case rel =>
              refine ⟨j + 1, by omega, by go_num, fun i hi => ?_⟩
              by_cases e : i = j
              · subst e; exact hel
              · exact HA.out i (by omega)
            case measure => simp [intOf]; omega
          · have HI : Hid (need ≤ size - ((xs.length : Int) - j) ↔ toGoN size given xs need ≤ k) := sim_big HV.out h6 (by omega) hs hjn HA.out (fun _ => by omega)
            by_cases hst : need ≤ size - ((xs.length : Int) - (j : Int))
            · have HE : Hid ((k : Int) = toGoN size given xs need) := by have := HI.out.1 hst; have := HK.out; unfold Hid; omega
              go_wp2
              go_ret
              exact ⟨ret_at HE.out, rfl⟩
            · have HL : Hid ((k : Int) < toGoN size given xs need) := by
                have h1 : ¬ toGoN size given xs need ≤ (k : Int) := fun h => hst (HI.out.2 h)
                unfold Hid; omega
              have hst' : size - ((xs.length : Int) - (j : Int)) < need := by omega
              clear hst
              go_wp2
              go_round
              case rel =>
                refine ⟨j, k + 1, hjn, by go_num, by go_num, ?_, ?_⟩
                · have := HL.out; unfold Hid; omega
                · intro i hi
                  have a1 := HA.out i hi
                  have a2 := st_mono size given k
                  have a3 : ((k + 1 : Nat) : Int) = (k : Int) + 1 := by omega
                  rw [a3]
                  rw [st_big hs] at a2
                  omega
              case measure => have := HL.out; have := HT.out; simp [intOf]; omega
        · have HI : Hid (need ≤ size - ((xs.length : Int) - j) ↔ toGoN size given xs need ≤ k) := sim_big HV.out h6 (by omega) hs hjn HA.out (fun h => absurd h hlt)
          have hst : need ≤ size - ((xs.length : Int) - (j : Int)) := by omega
          have HE : Hid ((k : Int) = toGoN size given xs need) := by have := HI.out.1 hst; have := HK.out; unfold Hid; omega
          go_wp2
          go_ret
          exact ⟨ret_at HE.out, rfl⟩
    · go_wp2
      go_loop [9] (fun vj => ∃ j : Nat, j ≤ xs.length ∧ vj = .int .i64 j ∧ Hid (∀ i, i < j → el xs i < 0)) (fun vj => xs.length - (intOf vj).toNat)
      case atStart => exact ⟨j0, hj0, rfl, fun i hi => by have := HA0.out i hi; rw [st_few (by omega)] at this; exact this⟩
      case round =>
        obtain ⟨j, hjn, rfl, HA⟩ := hrel
        have hs' : given + (k : Int) ≤ size := by omega
        by_cases hlt : j < xs.length
        · have hlt' : (j : Int) < (xs.length : Int) := by omega
          have hcj := HC.out j hlt
          by_cases hel : el xs j < 0
          · go_wp2
            go_round
            case rel =>
              refine ⟨j + 1, by omega, by go_num, fun i hi => ?_⟩
              by_cases e : i = j
              · subst e; exact hel
              · exact HA.out i (by omega)
            case measure => simp [intOf]; omega
          · have HI : Hid (need ≤ given + k - ((xs.length : Int) - j) ↔ toGoN size given xs need ≤ k) := sim_few HV.out h6 (by omega) hs' hjn HA.out
            by_cases hst : need ≤ (given + (k : Int)) - ((xs.length : Int) - (j : Int))
            · have HE : Hid ((k : Int) = toGoN size given xs need) := by have := HI.out.1 hst; have := HK.out; unfold Hid; omega
              go_wp2
              go_ret
              exact ⟨ret_at HE.out, rfl⟩
            · have HL : Hid ((k : Int) < toGoN size given xs need) := by
                have h1 : ¬ toGoN size given xs need ≤ (k : Int) := fun h => hst (HI.out.2 h)
                unfold Hid; omega
              have hst' : (given + (k : Int)) - ((xs.length : Int) - (j : Int)) < need := by omega
              clear hst
              go_wp2
              go_round
              case rel =>
                refine ⟨j, k + 1, hjn, by go_num, by go_num, ?_, ?_⟩
                · have := HL.out; unfold Hid; omega
                · intro i hi
                  have a1 := HA.out i hi
                  have a2 := st_mono size given k
                  have a3 : ((k + 1 : Nat) : Int) = (k : Int) + 1 := by omega
                  rw [a3]
                  rw [st_few (by omega)] at a2
                  omega
              case measure => have := HL.out; have := HT.out; simp [intOf]; omega
        · have HI : Hid (need ≤ given + k - ((xs.length : Int) - j) ↔ toGoN size given xs need ≤ k) := sim_few HV.out h6 (by omega) hs' hjn HA.out
          by_cases hst : need ≤ (given + (k : Int)) - ((xs.length : Int) - (j : Int))
          · have HE : Hid ((k : Int) = toGoN size given xs need) := by have := HI.out.1 hst; have := HK.out; unfold Hid; omega
            go_wp2
            go_ret
            exact ⟨ret_at HE.out, rfl⟩
          · have HL : Hid ((k : Int) < toGoN size given xs need) := by
              have h1 : ¬ toGoN size given xs need ≤ (k : Int) := fun h => hst (HI.out.2 h)
              unfold Hid; omega
            have hst' : (given + (k : Int)) - ((xs.length : Int) - (j : Int)) < need := by omega
            clear hst
            go_wp2
            go_round
            case rel =>
              refine ⟨j, k + 1, hjn, by go_num, by go_num, ?_, ?_⟩
              · have := HL.out; unfold Hid; omega
              · intro i hi
                have a1 := HA.out i hi
                have a2 := st_mono size given k
                have a3 : ((k + 1 : Nat) : Int) = (k : Int) + 1 := by omega
                rw [a3]
                rw [st_few (by omega)] at a2
                omega
            case measure => have := HL.out; have := HT.out; simp [intOf]; omega
end Sim
end Go.Proofs.Qxb6600035a
