/-
  modelToGo (28) at every slice of ints.
-/
import Derived.Test.Qxb6600035aModel
namespace Go.Proofs.Qxb6600035a
open Go.RowKit
open ToGo
namespace Sim

set_option maxHeartbeats 800000 in
theorem model_none (size given need : Int) (a : Option Addr) (c : Nat) (w : World) (hv : Valid size given []) (h2 : size ≤ 65536) (h4 : given ≤ 9223372036854775807 - size) (h5 : 0 ≤ need) (h6 : need ≤ size) :
    Calls Try.prog 28 #[.int .i64 size, .int .i64 given, .slice a 0 c, .int .i64 need] w fun e w' => e = .returned (.int .i64 (toGoN size given [] need)) ∧ w' = w := by
  have h1 := hv.1
  have h3 := hv.2.1
  have ht := toGo_bounds hv h5 h6
  have HT : Hid (0 ≤ toGoN size given [] need ∧ toGoN size given [] need ≤ size) := ⟨ht.1, by omega⟩
  have HV : Hid (Valid size given []) := hv
  clear hv ht
  go_enter Try.func28, Try.ntmps28
  go_wp2
  go_loop [9, 10] (fun vj vk => ∃ k : Nat, vj = .int .i64 0 ∧ vk = .int .i64 k ∧ Hid ((k : Int) ≤ toGoN size given [] need)) (fun _ vk => (size + 1).toNat - (intOf vk).toNat)
  case atStart => exact ⟨0, rfl, rfl, HT.out.1⟩
  case round =>
    obtain ⟨k, rfl, rfl, HK⟩ := hrel
    have hks : (k : Int) ≤ size := by have := HK.out; have := HT.out.2; omega
    by_cases hs : size < given + (k : Int)
    · have hi := sim_big (k := (k : Int)) (j := 0) HV.out h6 (by omega) hs (by simp) (fun i hi => absurd hi (by omega)) (fun h => absurd h (by simp))
      have HI : Hid (need ≤ size ↔ toGoN size given [] need ≤ k) := by unfold Hid; rw [← hi]; simp
      clear hi
      go_wp2
      go_loop [9] (fun vj => vj = .int .i64 0) (fun _ => 0)
      case atStart => rfl
      case round =>
        subst hrel
        have HE : Hid ((k : Int) = toGoN size given [] need) := by have := HI.out.1 h6; have := HK.out; unfold Hid; omega
        go_wp2
        go_ret
        exact ⟨ret_at HE.out, rfl⟩
    · have hi := sim_few (k := (k : Int)) (j := 0) HV.out h6 (by omega) (by omega) (by simp) (fun i hi => absurd hi (by omega))
      have HI : Hid (need ≤ given + k ↔ toGoN size given [] need ≤ k) := by unfold Hid; rw [← hi]; simp
      clear hi
      go_wp2
      go_loop [9] (fun vj => vj = .int .i64 0) (fun _ => 0)
      case atStart => rfl
      case round =>
        subst hrel
        by_cases hst : need ≤ given + (k : Int)
        · have HE : Hid ((k : Int) = toGoN size given [] need) := by have := HI.out.1 hst; have := HK.out; unfold Hid; omega
          go_wp2
          go_ret
          exact ⟨ret_at HE.out, rfl⟩
        · have HL : Hid ((k : Int) < toGoN size given [] need) := by
            have h1 : ¬ toGoN size given [] need ≤ (k : Int) := fun h => hst (HI.out.2 h)
            unfold Hid; omega
          have hst' : given + (k : Int) < need := by omega
          clear hst
          go_wp2
          go_round
          case rel =>
            refine ⟨k + 1, rfl, by go_num, ?_⟩
            have := HL.out; unfold Hid; omega
          case measure => have := HL.out; have := HT.out; simp [intOf]; omega

theorem model_any (size given need : Int) (xs : List Int) (a : Option Addr) (c : Nat) (w : World) (hv : Valid size given xs) (h2 : size ≤ 65536) (h4 : given ≤ 9223372036854775807 - size)
    (hn : xs.length ≤ 65536) (h5 : 0 ≤ need) (h6 : need ≤ size) (hr : RowAt w a xs) :
    Calls Try.prog 28 #[.int .i64 size, .int .i64 given, .slice a xs.length c, .int .i64 need] w fun e w' => e = .returned (.int .i64 (toGoN size given xs need)) ∧ w' = w := by
  rcases hr with rfl | ⟨b, off, rfl, _, hc⟩
  · exact model_none size given need a c w hv h2 h4 h5 h6
  · exact model_some size given need xs b off c w hv h2 h4 hn h5 h6 hc
end Sim
end Go.Proofs.Qxb6600035a
