/-
  The walk of withDigit (22): what it gives back is one byte longer.
-/
import Derived.Test.Qxb6600035aPad
namespace Go.Proofs.Qxb6600035a
open Go.RowKit
namespace Pad

theorem Try.info5 : (Try.prog.info? 5).map (fun i => (i.zero, i.size, i.bytes)) = some (some (.int .u8 0), 1, 1) := by kernel_rfl

def wdAt (p : ByteArray) (d : Nat) (j : Nat) : Int := if j < p.size then (by_ p j : Int) else 48 + d
def wdNums (p : ByteArray) (d : Nat) : List Int := (List.range (p.size + 1)).map (wdAt p d)

set_option maxHeartbeats 800000 in
theorem withDigit_any (p : ByteArray) (d : Nat) (w : World) (hs : p.size ≤ 1048576) (hd : d ≤ 9) :
    Calls Try.prog 22 #[.string p, .int .i64 d] w fun e w' => e = .returned (.string (strOfNums (wdNums p d))) ∧ Below w.heap.size w w' := by
  have hmk : ∀ w : World, (Instr.makeSlice 37 (.int .i64 ((p.size : Int) + 1)) (.int .i64 ((p.size : Int) + 1))).run Try.prog w = .ok (.slice (some ⟨w.heap.size, 0, none⟩) (p.size + 1) (p.size + 1)) (w.alloc (.cells (madeCells #[.int .u8 0] (p.size + 1)) 5)) := fun w => by
    have h := run_make_row' (P := Try.prog) 37 5 (.int .u8 0) 1 Try.underlying37 Try.info5 rfl .i64 .i64 (p.size + 1) (by omega) (by omega) w
    rwa [show ((p.size + 1 : Nat) : Int) = (p.size : Int) + 1 by omega] at h
  go_enter Try.func22, Try.ntmps22
  go_wp2
  go_loopw [6] (fun i wr => ∃ k : Nat, k ≤ p.size ∧ i = .int .i64 k ∧ Hid (wr.rowIs w.heap.size 5 (p.size + 1) (fun j => .int .u8 (if j < k then wdAt p d j else 0))) ∧ Hid (Below w.heap.size w wr)) (fun i _ => p.size - (intOf i).toNat)
  case atStart => exact ⟨0, Nat.zero_le _, rfl, (World.rowIs_made w _ _ _).congr (fun j _ => by simp), (Below.refl _ _).alloc (Nat.le_refl _) _⟩
  case round =>
    obtain ⟨k, hk, rfl, hrw, hbl⟩ := hrel
    have hf1 : wr.frozen? ⟨w.heap.size, k, none⟩ = false := hrw.out.frozen _
    have hc1 : wr.cell? ⟨w.heap.size, k, none⟩ = some (.int .u8 0) := by
      have := hrw.out.cell (i := k) (by omega)
      rwa [if_neg (by omega)] at this
    have ST : Hid (∀ v : Int, wdAt p d k = v → (wr.setCell ⟨w.heap.size, k, none⟩ (.int .u8 v)).rowIs w.heap.size 5 (p.size + 1) (fun j => .int .u8 (if j < k + 1 then wdAt p d j else 0))) := fun v hv =>
      (hrw.out.set k _).congr (fun j hj => by
        by_cases e : j = k
        · subst e; simp only [if_true]; rw [if_pos (by omega), hv]
        · simp only [e, if_false]
          by_cases e2 : j < k
          · rw [if_pos e2, if_pos (by omega)]
          · rw [if_neg e2, if_neg (by omega)])
    by_cases hlt : k < p.size
    · have hlt' : (k : Int) < (p.size : Int) := by omega
      have HU : Hid (wdAt p d k = (p[k].toNat : Int)) := by unfold Hid wdAt; rw [if_pos hlt, by_eq hlt]
      go_wp2
      go_roundw
      case rel => exact ⟨k + 1, by omega, by go_num, ST.out _ HU.out, hbl.out.setCell (Nat.le_refl _) _⟩
      case measure => simp [intOf]; omega
    · have e : k = p.size := by omega
      subst e
      have HU : Hid (wdAt p d p.size = 48 + (d : Int)) := by unfold Hid wdAt; rw [if_neg (by omega)]
      have hrow := ST.out _ HU.out
      have g := run_convert_bytes_arg (P := Try.prog) (wr.setCell ⟨w.heap.size, p.size, none⟩ (.int .u8 (48 + (d : Int)))) 37 5 Try.underlying37 Try.underlying5 w.heap.size 0 (p.size + 1) (p.size + 1) (wdNums p d) (by simp [wdNums]) (fun i hi => by
        rw [Nat.zero_add, hrow.cell hi, if_pos hi]
        simp [wdNums, List.getD_eq_getElem?_getD, hi]) 9 Try.underlying9
      clear hrow
      go_wp2
      go_ret
      exact ⟨rfl, hbl.out.setCell (Nat.le_refl _) _⟩

theorem wd_size (p : ByteArray) (d : Nat) : (strOfNums (wdNums p d)).size = p.size + 1 := by rw [strOfNums_size]; simp [wdNums]
end Pad
end Go.Proofs.Qxb6600035a
