/-
  The walks of toGo (33), ZZToGo (27).
-/
import Derived.Test.Qxb6600035aToGoB
namespace Go.Proofs.Qxb6600035a
open Go.RowKit
open ToGo
set_option linter.unusedVariables false

theorem ret_intg {k : IntKind} {a b : Int} (h : a = b) : Ending.returned (.int k a) = .returned (.int k b) := by rw [h]
set_option maxHeartbeats 800000 in
theorem toGo_big_le (size given need : Int) (xs : List Int) (a : Option Addr) (c B : Nat) (w : World) (h1 : 1 ≤ size) (h2 : size ≤ 9223372036854775807) (h3 : 0 ≤ given) (h4 : given ≤ 9223372036854775807)
    (hn : xs.length ≤ 65536) (h5 : 0 ≤ need) (h6 : need ≤ size) (hw : size < given) (hs : need - (size - (xs.length : Int)) ≤ 0) 
    (c0 : w.cell? ⟨B, 0, none⟩ = some (.int .i64 size)) (c1 : w.cell? ⟨B, 1, none⟩ = some (.int .i64 given)) (c2 : w.cell? ⟨B, 2, none⟩ = some (.slice a xs.length c)) :
    Calls Try.prog 33 #[.pointer (some ⟨B, 0, none⟩), .int .i64 need] w fun e w' => e = .returned (.int .i64 (toGoN size given xs need)) ∧ Below w.heap.size w w' := by
  have HT : Hid (toGoN size given xs need = 0) := by
    have hwn : win size given = size := by unfold win; rw [if_pos hw]
    unfold Hid toGoN short days room; rw [hwn, if_pos (by omega), if_neg (by omega)]
  go_enter Try.func33, Try.ntmps33
  go_wp2
  go_quiet (fail)
  go_wp2
  go_ret
  exact ⟨by rw [HT.out]; rfl, below_drewN (Below.refl _ _) _⟩
set_option maxHeartbeats 800000 in
theorem toGo_few_le0 (size given need : Int) (xs : List Int) (a : Option Addr) (c B : Nat) (w : World) (h1 : 1 ≤ size) (h2 : size ≤ 9223372036854775807) (h3 : 0 ≤ given) (h4 : given ≤ 9223372036854775807)
    (hn : xs.length ≤ 65536) (h5 : 0 ≤ need) (h6 : need ≤ size) (hw : ¬ size < given) (hs : need - (given - (xs.length : Int)) - (size - given) ≤ 0) (hm : need - (given - (xs.length : Int)) ≤ 0)
    (c0 : w.cell? ⟨B, 0, none⟩ = some (.int .i64 size)) (c1 : w.cell? ⟨B, 1, none⟩ = some (.int .i64 given)) (c2 : w.cell? ⟨B, 2, none⟩ = some (.slice a xs.length c)) :
    Calls Try.prog 33 #[.pointer (some ⟨B, 0, none⟩), .int .i64 need] w fun e w' => e = .returned (.int .i64 (toGoN size given xs need)) ∧ Below w.heap.size w w' := by
  have HT : Hid (toGoN size given xs need = 0) := by
    have hwn : win size given = given := by unfold win; rw [if_neg hw]
    unfold Hid toGoN short days room; rw [hwn, if_pos (by omega), if_neg (by omega)]
  go_enter Try.func33, Try.ntmps33
  go_wp2
  go_quiet (fail)
  go_wp2
  go_ret
  exact ⟨by rw [HT.out]; rfl, below_drewN (Below.refl _ _) _⟩
set_option maxHeartbeats 800000 in
theorem toGo_few_le1 (size given need : Int) (xs : List Int) (a : Option Addr) (c B : Nat) (w : World) (h1 : 1 ≤ size) (h2 : size ≤ 9223372036854775807) (h3 : 0 ≤ given) (h4 : given ≤ 9223372036854775807)
    (hn : xs.length ≤ 65536) (h5 : 0 ≤ need) (h6 : need ≤ size) (hw : ¬ size < given) (hs : need - (given - (xs.length : Int)) - (size - given) ≤ 0) (hm : 0 < need - (given - (xs.length : Int)))
    (c0 : w.cell? ⟨B, 0, none⟩ = some (.int .i64 size)) (c1 : w.cell? ⟨B, 1, none⟩ = some (.int .i64 given)) (c2 : w.cell? ⟨B, 2, none⟩ = some (.slice a xs.length c)) :
    Calls Try.prog 33 #[.pointer (some ⟨B, 0, none⟩), .int .i64 need] w fun e w' => e = .returned (.int .i64 (toGoN size given xs need)) ∧ Below w.heap.size w w' := by
  have HT : Hid (toGoN size given xs need = need - (given - (xs.length : Int))) := by
    have hwn : win size given = given := by unfold win; rw [if_neg hw]
    unfold Hid toGoN short days room; rw [hwn, if_pos (by omega), if_pos (by omega)]
  go_enter Try.func33, Try.ntmps33
  go_wp2
  go_quiet (fail)
  go_wp2
  go_ret
  exact ⟨by rw [HT.out]; rfl, below_drewN (Below.refl _ _) _⟩
set_option maxHeartbeats 800000 in
theorem toGo_big_gt (size given need : Int) (xs : List Int) (b off c B : Nat) (w : World) (h1 : 1 ≤ size) (h2 : size ≤ 9223372036854775807) (h3 : 0 ≤ given) (h4 : given ≤ 9223372036854775807)
    (hn : xs.length ≤ 65536) (h5 : 0 ≤ need) (h6 : need ≤ size) (hw : size < given) (hs : 0 < need - (size - (xs.length : Int))) (hl : (xs.length : Int) ≤ size) (hlo : given - size ≤ el xs (need - (size - (xs.length : Int)) - 1).toNat) (hhi : el xs (need - (size - (xs.length : Int)) - 1).toNat ≤ given - 1)
    (hc : ∀ j, j < xs.length → w.cell? ⟨b, off + j, none⟩ = some (.int .i64 (el xs j)))
    (c0 : w.cell? ⟨B, 0, none⟩ = some (.int .i64 size)) (c1 : w.cell? ⟨B, 1, none⟩ = some (.int .i64 given)) (c2 : w.cell? ⟨B, 2, none⟩ = some (.slice (some ⟨b, off, none⟩) xs.length c)) :
    Calls Try.prog 33 #[.pointer (some ⟨B, 0, none⟩), .int .i64 need] w fun e w' => e = .returned (.int .i64 (toGoN size given xs need)) ∧ Below w.heap.size w w' := by
  have HT : Hid (toGoN size given xs need = (size - size) + el xs (need - (size - (xs.length : Int)) - 1).toNat - (given - size) + 1) := by
    have hwn : win size given = size := by unfold win; rw [if_pos hw]
    unfold Hid toGoN short days room; rw [hwn, if_neg (by omega)]
    rw [show need - (size - (xs.length : Int)) - (size - size) = need - (size - (xs.length : Int)) by omega]
  have hce := hc (need - (size - (xs.length : Int)) - 1).toNat (by omega)
  have hce' : w.cell? ⟨b, off + ((need - (size - (xs.length : Int))).toNat - 1), none⟩ = some (.int .i64 (el xs (need - (size - (xs.length : Int)) - 1).toNat)) := by rw [show (need - (size - (xs.length : Int))).toNat - 1 = (need - (size - (xs.length : Int)) - 1).toNat by omega]; exact hce
  clear hc
  generalize el xs (need - (size - (xs.length : Int)) - 1).toNat = E at *
  go_enter Try.func33, Try.ntmps33
  go_wp2
  go_quiet (fail)
  go_wp2
  go_ret
  exact ⟨by rw [HT.out]; exact ret_intg (by omega), below_drewN (Below.refl _ _) _⟩
set_option maxHeartbeats 800000 in
theorem toGo_few_gt (size given need : Int) (xs : List Int) (b off c B : Nat) (w : World) (h1 : 1 ≤ size) (h2 : size ≤ 9223372036854775807) (h3 : 0 ≤ given) (h4 : given ≤ 9223372036854775807)
    (hn : xs.length ≤ 65536) (h5 : 0 ≤ need) (h6 : need ≤ size) (hw : ¬ size < given) (hs : 0 < need - (given - (xs.length : Int)) - (size - given)) (hl : (xs.length : Int) ≤ given) (hlo : 0 ≤ el xs (need - (given - (xs.length : Int)) - (size - given) - 1).toNat) (hhi : el xs (need - (given - (xs.length : Int)) - (size - given) - 1).toNat ≤ given - 1)
    (hc : ∀ j, j < xs.length → w.cell? ⟨b, off + j, none⟩ = some (.int .i64 (el xs j)))
    (c0 : w.cell? ⟨B, 0, none⟩ = some (.int .i64 size)) (c1 : w.cell? ⟨B, 1, none⟩ = some (.int .i64 given)) (c2 : w.cell? ⟨B, 2, none⟩ = some (.slice (some ⟨b, off, none⟩) xs.length c)) :
    Calls Try.prog 33 #[.pointer (some ⟨B, 0, none⟩), .int .i64 need] w fun e w' => e = .returned (.int .i64 (toGoN size given xs need)) ∧ Below w.heap.size w w' := by
  have HT : Hid (toGoN size given xs need = (size - given) + el xs (need - (given - (xs.length : Int)) - (size - given) - 1).toNat - (given - given) + 1) := by
    have hwn : win size given = given := by unfold win; rw [if_neg hw]
    unfold Hid toGoN short days room; rw [hwn, if_neg (by omega)]
  have hce := hc (need - (given - (xs.length : Int)) - (size - given) - 1).toNat (by omega)
  have hce' : w.cell? ⟨b, off + ((need - (given - (xs.length : Int)) - (size - given)).toNat - 1), none⟩ = some (.int .i64 (el xs (need - (given - (xs.length : Int)) - (size - given) - 1).toNat)) := by rw [show (need - (given - (xs.length : Int)) - (size - given)).toNat - 1 = (need - (given - (xs.length : Int)) - (size - given) - 1).toNat by omega]; exact hce
  clear hc
  generalize el xs (need - (given - (xs.length : Int)) - (size - given) - 1).toNat = E at *
  go_enter Try.func33, Try.ntmps33
  go_wp2
  go_quiet (fail)
  go_wp2
  go_ret
  exact ⟨by rw [HT.out]; exact ret_intg (by omega), below_drewN (Below.refl _ _) _⟩
end Go.Proofs.Qxb6600035a
