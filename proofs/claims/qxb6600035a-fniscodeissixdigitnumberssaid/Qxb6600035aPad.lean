/-
  The walks of pad6 (21), parse6 (23), withDigit (22).
-/
import Derived.Test.Qxb6600035aPadPlain
import Derived.Deep.OwnRows
namespace Go.Proofs.Qxb6600035a
open Go.RowKit
namespace Pad

set_option maxHeartbeats 800000 in
theorem pad_any (n : Nat) (w : World) (hn : n ≤ 999999) :
    Calls Try.prog 21 #[.int .i64 n] w fun e w' => e = .returned (.string (pad n)) ∧ Below w.heap.size w w' := by
  go_enter Try.func21, Try.ntmps21
  go_wp2
  go_loopw [0, 4] (fun nn i wr => ∃ (z : Int) (q : Nat), -1 ≤ z ∧ z ≤ 5 ∧ q ≤ 999999 ∧ i = .int .i64 z ∧ nn = .int .i64 q ∧ Hid (q = n / 10 ^ (5 - z).toNat) ∧ Hid (wr.rowIs w.heap.size 38 6 (fun j => .int .u8 (if z < (j : Int) then (dg n j : Int) else 0))) ∧ Hid (Below w.heap.size w wr)) (fun _ i _ => (intOf i + 1).toNat)
  case atStart =>
    refine ⟨5, n, by omega, by omega, hn, rfl, rfl, ?_, ?_, (Below.refl _ _).alloc (Nat.le_refl _) _⟩
    · show n = n / 1; omega
    · refine (World.rowIs_alloc w _ 38 (fun _ => .int .u8 0) (fun i hi => ?_)).congr (fun j hj => ?_)
      · have : i < 6 := by simpa using hi
        rcases i with _ | _ | _ | _ | _ | _ | i
        all_goals first | rfl | omega
      · have : j < 6 := by simpa using hj
        rw [if_neg (by omega)]
  case round =>
    obtain ⟨z, q, hz1, hz2, hq, rfl, rfl, HQ, hrw, hbl⟩ := hrel
    by_cases hz : 0 ≤ z
    · have hf1 : wr.frozen? ⟨w.heap.size, z.toNat, none⟩ = false := hrw.out.frozen _
      have hc1 : wr.cell? ⟨w.heap.size, z.toNat, none⟩ = some (.int .u8 0) := by
        have := hrw.out.cell (i := z.toNat) (by omega)
        rwa [if_neg (by omega)] at this
      have ST : Hid (∀ v : Int, (dg n z.toNat : Int) = v → (wr.setCell ⟨w.heap.size, z.toNat, none⟩ (.int .u8 v)).rowIs w.heap.size 38 6 (fun j => .int .u8 (if z - 1 < (j : Int) then (dg n j : Int) else 0))) := fun v hv =>
        (hrw.out.set z.toNat _).congr (fun j hj => by
          by_cases e : j = z.toNat
          · subst e; simp only [if_true]; rw [if_pos (by omega), hv]
          · simp only [e, if_false]
            by_cases e2 : z < (j : Int)
            · rw [if_pos e2, if_pos (by omega)]
            · rw [if_neg e2, if_neg (by omega)])
      have HG : Hid ((dg n z.toNat : Int) = 48 + (q : Int) % 10) := by
        unfold Hid dg; rw [show 5 - z.toNat = (5 - z).toNat by omega, ← HQ.out]; omega
      have HN : Hid (q / 10 = n / 10 ^ (5 - (z - 1)).toNat) := by
        unfold Hid; rw [show (5 - (z - 1)).toNat = (5 - z).toNat + 1 by omega, Nat.pow_succ, ← Nat.div_div_eq_div_mul, ← HQ.out]
      go_wp2
      go_roundw
      case rel => exact ⟨z - 1, q / 10, by omega, by omega, by omega, rfl, by go_num, HN.out, ST.out _ HG.out, hbl.out.setCell (Nat.le_refl _) _⟩
      case measure => simp [intOf]; omega
    · have g := run_convert_bytes_arg (P := Try.prog) wr 37 5 Try.underlying37 Try.underlying5 w.heap.size 0 6 6 (nums n) (nums_length n) (fun i hi => by
        rw [Nat.zero_add, hrw.out.cell hi, if_pos (by omega), nums_getD _ _ hi]) 9 Try.underlying9
      go_wp2
      go_ret
      exact ⟨rfl, hbl.out⟩

set_option maxHeartbeats 800000 in
theorem parse_any (s : ByteArray) (w : World) (h : codeB s = true) :
    Calls Try.prog 23 #[.string s] w fun e w' => e = .returned (.int .i64 (val s 6)) ∧ w' = w := by
  obtain ⟨h6, hd⟩ := code_digits h
  have hb := val_bound hd
  have HD : Hid (∀ j, j < 6 → 48 ≤ by_ s j ∧ by_ s j ≤ 57) := hd
  have HB : Hid (∀ k, k ≤ 6 → val s k ≤ 999999) := hb
  have H6 : Hid (s.size = 6) := h6
  have hq : ((s.size : Int) == 6) = true := by simp; omega
  have hs : 6 ≤ s.size := by omega
  clear h h6 hd hb
  go_enter Try.func23, Try.ntmps23
  go_wp2
  go_loop [3, 4] (fun v i => ∃ k : Nat, k ≤ 6 ∧ i = .int .i64 k ∧ v = .int .i64 (val s k)) (fun _ i => 6 - (intOf i).toNat)
  case atStart => exact ⟨0, by omega, rfl, rfl⟩
  case round =>
    obtain ⟨k, hk, rfl, rfl⟩ := hrel
    have hv := HB.out k hk
    by_cases hlt : (k : Int) < 6
    · have hks : k < s.size := by omega
      have hks' : (k : Int) < (s.size : Int) := by omega
      have hby := HD.out k (by omega)
      rw [by_eq hks] at hby
      have h1 : ¬ (s[k].toNat : Int) < 48 := by omega
      have h2 : ¬ 57 < (s[k].toNat : Int) := by omega
      have HV : Hid ((val s (k + 1) : Int) = (val s k : Int) * 10 + ((s[k].toNat : Int) - 48)) := by unfold Hid; rw [val, by_eq hks]; omega
      clear hby
      go_wp2
      go_round
      case rel => exact ⟨k + 1, by omega, by go_num, by rw [HV.out]⟩
      case measure => simp [intOf]; omega
    · have e : k = 6 := by omega
      subst e
      go_wp2
      go_ret
      exact ⟨rfl, rfl⟩
end Pad
end Go.Proofs.Qxb6600035a
