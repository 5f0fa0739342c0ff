/-
  The walk of utoaModel (13): one to twenty digits.
-/
import Derived.Test.Qxb6600381aDigits
import Derived.Deep.OwnRows
import Derived.Laws.BytesArg
namespace Go.Proofs.Qxb6600381a
open Go.RowKit

/-- A text of one to twenty digits. -/
def Numeral (u : ByteArray) : Prop := 1 ≤ u.size ∧ u.size ≤ 20 ∧ ∀ k (hk : k < u.size), digB u[k] = true

theorem numeral_of {f : Nat → Nat} {z : Nat} (hz : z < 20) (hf : ∀ j, z ≤ j → j < 20 → 48 ≤ f j ∧ f j ≤ 57) : Numeral (strOfNums ((List.range (20 - z)).map fun i => ((f (z + i) : Nat) : Int))) := by
  have hs : (strOfNums ((List.range (20 - z)).map fun i => ((f (z + i) : Nat) : Int))).size = 20 - z := by rw [strOfNums_size]; simp
  refine ⟨by omega, by omega, fun k hk => ?_⟩
  have hk' : k < 20 - z := by omega
  have e : (strOfNums ((List.range (20 - z)).map fun i => ((f (z + i) : Nat) : Int)))[k] = UInt8.ofNat (f (z + k)) := by
    show (strOfNums _).data[k] = _
    simp [strOfNums]
  rw [e]
  have hb := hf (z + k) (by omega) (by omega)
  simp only [digB, decide_eq_true_eq]
  rw [UInt8.toNat_ofNat_of_lt' (by show _ < 256; omega)]
  exact hb

set_option maxHeartbeats 800000 in
theorem utoa_any (n : Nat) (w : World) (hn : n ≤ 18446744073709551615) :
    Calls Try.prog 13 #[.int .u64 n] w fun e w' => ∃ u : ByteArray, e = .returned (.string u) ∧ Numeral u ∧ Below w.heap.size w w' := by
  go_enter Try.func13, Try.ntmps13
  go_wp2
  go_loopw [0, 4] (fun nn i wr => ∃ (z : Int) (q : Nat), 1 ≤ z ∧ z ≤ 20 ∧ q ≤ 18446744073709551615 ∧ i = .int .i64 z ∧ nn = .int .u64 q ∧ Hid (q < 10 ^ z.toNat) ∧ Hid (∃ f : Nat → Nat, wr.rowIs w.heap.size 28 20 (fun j => .int .u8 (f j)) ∧ ∀ j, z.toNat ≤ j → j < 20 → 48 ≤ f j ∧ f j ≤ 57) ∧ Hid (Below w.heap.size w wr)) (fun _ i _ => (intOf i).toNat)
  case atStart =>
    refine ⟨20, n, by omega, by omega, hn, rfl, rfl, ?_, ⟨fun _ => 0, ?_, fun j h1 h2 => absurd h1 (by simp; omega)⟩, (Below.refl _ _).alloc (Nat.le_refl _) _⟩
    · show n < 100000000000000000000; omega
    · refine World.rowIs_alloc w _ 28 (fun _ => .int .u8 0) (fun i hi => ?_)
      have : i < 20 := by simpa using hi
      rcases i with _ | _ | _ | _ | _ | _ | _ | _ | _ | _ | _ | _ | _ | _ | _ | _ | _ | _ | _ | _ | i
      all_goals first | rfl | omega
  case round =>
    obtain ⟨z, q, hz1, hz2, hq, rfl, rfl, HQ, HF, hbl⟩ := hrel
    obtain ⟨f, hrw, hf⟩ := HF.out
    have hf1 : wr.frozen? ⟨w.heap.size, (z - 1).toNat, none⟩ = false := hrw.frozen _
    have hc1 : wr.cell? ⟨w.heap.size, (z - 1).toNat, none⟩ = some (.int .u8 (f (z - 1).toNat)) := hrw.cell (by omega)
    have hf2 : wr.frozen? ⟨w.heap.size, z.toNat - 1, none⟩ = false := hrw.frozen _
    have hc2 : wr.cell? ⟨w.heap.size, z.toNat - 1, none⟩ = some (.int .u8 (f (z.toNat - 1))) := hrw.cell (by omega)
    have ST : Hid (∀ v : Nat, 48 ≤ v → v ≤ 57 → ∃ f : Nat → Nat, (wr.setCell ⟨w.heap.size, z.toNat - 1, none⟩ (.int .u8 v)).rowIs w.heap.size 28 20 (fun j => .int .u8 (f j)) ∧ ∀ j, z.toNat - 1 ≤ j → j < 20 → 48 ≤ f j ∧ f j ≤ 57) := fun v h1 h2 =>
      ⟨fun j => if j = z.toNat - 1 then v else f j, (hrw.set _ _).congr (fun j _ => by by_cases e : j = z.toNat - 1 <;> simp [e]), fun j a b => by
        by_cases e : j = z.toNat - 1
        · simp only [e, if_true]; exact ⟨h1, h2⟩
        · simp only [e, if_false]; exact hf j (by omega) b⟩
    clear hrw hf HF
    by_cases hq0 : q / 10 = 0
    · have hb : (((q : Int) / 10) == 0) = true := by simp; omega
      have hal : Try.prog.arrayLen 28 = 20 := by simp [Program.arrayLen, Try.underlying28]
      have hsl : ∀ W, (Instr.sliceAt 28 (.pointer (some ⟨w.heap.size, 0, none⟩)) (some (.int .i64 (z - 1))) none none).run Try.prog W = .ok (.slice (some ⟨w.heap.size, z.toNat - 1, none⟩) (20 - (z.toNat - 1)) (20 - (z.toNat - 1))) W := fun W => by
        rw [run_sliceAt_array_l W 28 ⟨w.heap.size, 0, none⟩ (by simp [Program.arrayLen, Program.elem, Try.underlying28]) .i64 (z - 1) (by omega) (by rw [hal]; omega)]
        go_simp
        omega
      obtain ⟨g, hg, hgd⟩ := ST.out (48 + q % 10) (by omega) (by omega)
      have hvv : ((48 + q % 10 : Nat) : Int) = 48 + (q : Int) % 10 := by omega
      rw [hvv] at hg
      have cv := run_convert_bytes_arg (P := Try.prog) (wr.setCell ⟨w.heap.size, z.toNat - 1, none⟩ (.int .u8 (48 + (q : Int) % 10))) 29 5 Try.underlying29 Try.underlying5 w.heap.size (z.toNat - 1) (20 - (z.toNat - 1)) (20 - (z.toNat - 1)) ((List.range (20 - (z.toNat - 1))).map fun i => ((g (z.toNat - 1 + i) : Nat) : Int)) (by simp) (fun i hi => by
        rw [hg.cell (by omega)]
        simp [List.getD_eq_getElem?_getD, hi]) 9 Try.underlying9
      have HU : Hid (Numeral (strOfNums ((List.range (20 - (z.toNat - 1))).map fun i => ((g (z.toNat - 1 + i) : Nat) : Int)))) := numeral_of (by omega) hgd
      generalize strOfNums ((List.range (20 - (z.toNat - 1))).map fun i => ((g (z.toNat - 1 + i) : Nat) : Int)) = u at cv HU
      clear hg hgd hvv ST
      go_wp2
      go_ret
      exact ⟨u, rfl, HU.out, hbl.out.setCell (Nat.le_refl _) _⟩
    · have hb : (((q : Int) / 10) == 0) = false := by simp; omega
      go_wp2
      go_roundw
      case rel =>
        refine ⟨z - 1, q / 10, ?_, by omega, by omega, rfl, by go_num, ?_, ?_, hbl.out.setCell (Nat.le_refl _) _⟩
        · have h := HQ.out
          by_cases e : z = 1
          · rw [e] at h
            have h' : q < 10 := h
            omega
          · omega
        · have h := HQ.out
          rw [show z.toNat = (z - 1).toNat + 1 by omega, Nat.pow_succ] at h
          unfold Hid
          omega
        · have := ST.out (48 + q % 10) (by omega) (by omega)
          rw [show ((48 + q % 10 : Nat) : Int) = 48 + (q : Int) % 10 by omega] at this
          rw [show (z - 1).toNat = z.toNat - 1 by omega]
          exact this
      case measure => simp [intOf]; omega
end Go.Proofs.Qxb6600381a
