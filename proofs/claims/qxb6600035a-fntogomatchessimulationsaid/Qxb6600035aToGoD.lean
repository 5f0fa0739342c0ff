/-
  toGo (33) and ZZToGo (27) at every well-formed counter.
-/
import Derived.Test.Qxb6600035aToGoC
namespace Go.Proofs.Qxb6600035a
open Go.RowKit
open ToGo

theorem toGo_any (size given need : Int) (xs : List Int) (a : Option Addr) (c B : Nat) (w : World) (hv : Valid size given xs) (h2 : size ≤ 9223372036854775807) (h4 : given ≤ 9223372036854775807)
    (hn : xs.length ≤ 65536) (h5 : 0 ≤ need) (h6 : need ≤ size) (hr : RowAt w a xs)
    (c0 : w.cell? ⟨B, 0, none⟩ = some (.int .i64 size)) (c1 : w.cell? ⟨B, 1, none⟩ = some (.int .i64 given)) (c2 : w.cell? ⟨B, 2, none⟩ = some (.slice a xs.length c)) :
    Calls Try.prog 33 #[.pointer (some ⟨B, 0, none⟩), .int .i64 need] w fun e w' => e = .returned (.int .i64 (toGoN size given xs need)) ∧ Below w.heap.size w w' := by
  have hl := valid_len hv
  have h1 := hv.1
  have h3 := hv.2.1
  by_cases hw : size < given
  · have e : win size given = size := by unfold win; rw [if_pos hw]
    rw [e] at hl
    by_cases hs : need - (size - (xs.length : Int)) ≤ 0
    · exact toGo_big_le size given need xs a c B w h1 h2 h3 h4 hn h5 h6 hw hs c0 c1 c2
    · rcases hr with rfl | ⟨b, off, rfl, _, hc⟩
      · simp at hs; omega
      · have hj : (need - (size - (xs.length : Int)) - 1).toNat < xs.length := by omega
        have ho := hv.2.2 _ hj
        unfold OkAt at ho
        rw [e] at ho
        exact toGo_big_gt size given need xs b off c B w h1 h2 h3 h4 hn h5 h6 hw (by omega) hl ho.1 ho.2.1 hc c0 c1 c2
  · have e : win size given = given := by unfold win; rw [if_neg hw]
    rw [e] at hl
    by_cases hs : need - (given - (xs.length : Int)) - (size - given) ≤ 0
    · by_cases hm : need - (given - (xs.length : Int)) ≤ 0
      · exact toGo_few_le0 size given need xs a c B w h1 h2 h3 h4 hn h5 h6 hw hs hm c0 c1 c2
      · exact toGo_few_le1 size given need xs a c B w h1 h2 h3 h4 hn h5 h6 hw hs (by omega) c0 c1 c2
    · rcases hr with rfl | ⟨b, off, rfl, _, hc⟩
      · simp at hs; omega
      · have hj : (need - (given - (xs.length : Int)) - (size - given) - 1).toNat < xs.length := by omega
        have ho := hv.2.2 _ hj
        unfold OkAt at ho
        rw [e] at ho
        exact toGo_few_gt size given need xs b off c B w h1 h2 h3 h4 hn h5 h6 hw (by omega) hl (by omega) ho.2.1 hc c0 c1 c2

set_option maxHeartbeats 400000 in
theorem zzToGo_any (size given need : Int) (xs : List Int) (a : Option Addr) (c : Nat) (w : World) (hv : Valid size given xs) (h2 : size ≤ 9223372036854775807) (h4 : given ≤ 9223372036854775807)
    (hn : xs.length ≤ 65536) (h5 : 0 ≤ need) (h6 : need ≤ size) (hr : RowAt w a xs) :
    Calls Try.prog 27 #[.int .i64 size, .int .i64 given, .slice a xs.length c, .int .i64 need] w fun e w' => e = .returned (.int .i64 (toGoN size given xs need)) ∧ Below w.heap.size w w' := by
  go_enter Try.func27, Try.ntmps27
  go_wp2_with fail
  have hb : Below w.heap.size w (w.alloc (.cells #[.int .i64 size, .int .i64 given, .slice a xs.length c] 41)) := (Below.refl _ _).alloc (Nat.le_refl _) _
  refine (toGo_any size given need xs a c w.heap.size _ hv h2 h4 hn h5 h6 (hr.below hb (Nat.le_refl _)) ?_ ?_ ?_).mono ?_
  · simp
  · simp
  · simp
  rintro e w1 ⟨rfl, hb1⟩
  go_wp2
  go_ret
  exact ⟨rfl, hb.trans (hb1.mono (by simp))⟩
end Go.Proofs.Qxb6600035a
