/-
  A slice of ints as the walks see it; validCounter (25) at every such slice; the walk of cloneInts (26).
-/
import Derived.Test.Qxb6600035aToGoA
import Derived.Lib.SliceRun
namespace Go.Proofs.Qxb6600035a
open Go.RowKit
open ToGo

/-- The slice '.slice a xs.length c' holds the numbers xs. -/
def RowAt (w : World) (a : Option Addr) (xs : List Int) : Prop :=
  xs = [] ∨ ∃ b off, a = some ⟨b, off, none⟩ ∧ b < w.heap.size ∧ ∀ j, j < xs.length → w.cell? ⟨b, off + j, none⟩ = some (.int .i64 (el xs j))

theorem RowAt.below {w w' : World} {a : Option Addr} {xs : List Int} {B : Nat} (h : RowAt w a xs) (hb : Below B w w') (hB : w.heap.size ≤ B) : RowAt w' a xs := by
  rcases h with h | ⟨b, off, ha, hl, hc⟩
  · exact .inl h
  · exact .inr ⟨b, off, ha, Nat.lt_of_lt_of_le hl hb.size, fun j hj => (hb.cell (p := ⟨b, off + j, none⟩) (Nat.lt_of_lt_of_le hl hB)).trans (hc j hj)⟩

set_option maxHeartbeats 400000 in
theorem vc_none (size given : Int) (a : Option Addr) (c : Nat) (w : World) (h1 : 1 ≤ size) (h2 : size ≤ 9223372036854775807) (h3 : 0 ≤ given) (h4 : given ≤ 9223372036854775807) :
    Calls Try.prog 25 #[.int .i64 size, .int .i64 given, .slice a 0 c] w fun e w' => e = .returned (.bool true) ∧ w' = w := by
  by_cases hw : size < given
  all_goals
    go_enter Try.func25, Try.ntmps25
    go_wp2
    go_loop [9] (fun i => i = .int .i64 0) (fun _ => 0)
    case atStart => rfl
    case round =>
      subst hrel
      go_wp2
      go_ret
      exact ⟨rfl, rfl⟩

theorem valid_any (size given : Int) (xs : List Int) (a : Option Addr) (c : Nat) (w : World) (h1 : 1 ≤ size) (h2 : size ≤ 9223372036854775807) (h3 : 0 ≤ given) (h4 : given ≤ 9223372036854775807)
    (hn : xs.length ≤ 9223372036854775807) (hr : RowAt w a xs) :
    Calls Try.prog 25 #[.int .i64 size, .int .i64 given, .slice a xs.length c] w fun e w' => VcSays size given xs e ∧ w' = w := by
  rcases hr with rfl | ⟨b, off, rfl, _, hc⟩
  · exact (vc_none size given a c w h1 h2 h3 h4).mono fun e w' ⟨he, hw⟩ => ⟨by rw [he]; exact vcYes ⟨h1, h3, fun j hj => absurd hj (by simp)⟩, hw⟩
  · by_cases hw : size < given
    · exact vc_big size given xs b off c w h1 h2 h3 h4 hw hn hc
    · exact vc_few size given xs b off c w h1 h2 h3 h4 hw hn hc

theorem valid_yes (size given : Int) (xs : List Int) (a : Option Addr) (c : Nat) (w : World) (h1 : 1 ≤ size) (h2 : size ≤ 9223372036854775807) (h3 : 0 ≤ given) (h4 : given ≤ 9223372036854775807)
    (hn : xs.length ≤ 9223372036854775807) (hr : RowAt w a xs) (hv : Valid size given xs) :
    Calls Try.prog 25 #[.int .i64 size, .int .i64 given, .slice a xs.length c] w fun e w' => e = .returned (.bool true) ∧ w' = w :=
  (valid_any size given xs a c w h1 h2 h3 h4 hn hr).mono fun e w' ⟨⟨v, he, hi⟩, hw⟩ => ⟨by rw [he, hi.2 hv], hw⟩
theorem valid_no (size given : Int) (xs : List Int) (a : Option Addr) (c : Nat) (w : World) (h1 : 1 ≤ size) (h2 : size ≤ 9223372036854775807) (h3 : 0 ≤ given) (h4 : given ≤ 9223372036854775807)
    (hn : xs.length ≤ 9223372036854775807) (hr : RowAt w a xs) (hv : ¬ Valid size given xs) :
    Calls Try.prog 25 #[.int .i64 size, .int .i64 given, .slice a xs.length c] w fun e w' => e = .returned (.bool false) ∧ w' = w :=
  (valid_any size given xs a c w h1 h2 h3 h4 hn hr).mono fun e w' ⟨⟨v, he, hi⟩, hw⟩ => ⟨by rw [he]; cases v with | false => rfl | true => exact absurd (hi.1 rfl) hv, hw⟩

theorem Try.info3 : (Try.prog.info? 3).map (fun i => (i.zero, i.size, i.bytes)) = some (some (.int .i64 0), 1, 8) := by kernel_rfl

set_option maxHeartbeats 400000 in
theorem clone_nil (w : World) :
    Calls Try.prog 26 #[.slice none 0 0] w fun e w' => e = .returned (.slice none 0 0) ∧ w' = w := by
  have q32 : ∀ (w : World) (a : Option Addr) (n c n' c' : Nat), (binOp .eql 32 (.slice a n c) (.slice none n' c')).run Try.prog w = .ok (.bool a.isNone) w := fun w a n c n' c' => Lib.run_eql_slice_nil w _ _ a n c n' c' Try.underlying32
  go_enter Try.func26, Try.ntmps26
  go_wp2
  go_ret
  exact ⟨rfl, rfl⟩
set_option maxHeartbeats 400000 in
theorem clone_none (x : Addr) (c : Nat) (w : World) :
    Calls Try.prog 26 #[.slice (some x) 0 c] w fun e w' => e = .returned (.slice (some ⟨w.heap.size, 0, none⟩) 0 0) ∧ Below w.heap.size w w' := by
  have q32 : ∀ (w : World) (a : Option Addr) (n c n' c' : Nat), (binOp .eql 32 (.slice a n c) (.slice none n' c')).run Try.prog w = .ok (.bool a.isNone) w := fun w a n c n' c' => Lib.run_eql_slice_nil w _ _ a n c n' c' Try.underlying32
  have hmk : ∀ w : World, (Instr.makeSlice 32 (.int .i64 0) (.int .i64 0)).run Try.prog w = .ok (.slice (some ⟨w.heap.size, 0, none⟩) 0 0) (w.alloc (.cells (madeCells #[.int .i64 0] 0) 3)) := fun w =>
    run_make_row' (P := Try.prog) 32 3 (.int .i64 0) 8 Try.underlying32 Try.info3 rfl .i64 .i64 0 (by omega) (by omega) w
  go_enter Try.func26, Try.ntmps26
  go_wp2
  go_loop [4] (fun i => i = .int .i64 0) (fun _ => 0)
  case atStart => rfl
  case round =>
    subst hrel
    go_wp2
    go_ret
    exact ⟨rfl, (Below.refl _ _).alloc (Nat.le_refl _) _⟩

set_option maxHeartbeats 800000 in
theorem clone_some (xs : List Int) (b off c : Nat) (w : World) (hn : xs.length ≤ 65536) (hb : b < w.heap.size) (hc : ∀ j, j < xs.length → w.cell? ⟨b, off + j, none⟩ = some (.int .i64 (el xs j))) :
    Calls Try.prog 26 #[.slice (some ⟨b, off, none⟩) xs.length c] w fun e w' => e = .returned (.slice (some ⟨w.heap.size, 0, none⟩) xs.length xs.length) ∧ RowAt w' (some ⟨w.heap.size, 0, none⟩) xs ∧ Below w.heap.size w w' := by
  have q32 : ∀ (w : World) (a : Option Addr) (n c n' c' : Nat), (binOp .eql 32 (.slice a n c) (.slice none n' c')).run Try.prog w = .ok (.bool a.isNone) w := fun w a n c n' c' => Lib.run_eql_slice_nil w _ _ a n c n' c' Try.underlying32
  have hmk : ∀ w : World, (Instr.makeSlice 32 (.int .i64 (xs.length : Int)) (.int .i64 (xs.length : Int))).run Try.prog w = .ok (.slice (some ⟨w.heap.size, 0, none⟩) xs.length xs.length) (w.alloc (.cells (madeCells #[.int .i64 0] xs.length) 3)) := fun w =>
    run_make_row' (P := Try.prog) 32 3 (.int .i64 0) 8 Try.underlying32 Try.info3 rfl .i64 .i64 xs.length (by omega) (by omega) w
  have HC : Hid (∀ j, j < xs.length → w.cell? ⟨b, off + j, none⟩ = some (.int .i64 (el xs j))) := hc
  clear hc
  go_enter Try.func26, Try.ntmps26
  go_wp2
  go_loopw [4] (fun i wr => ∃ k : Nat, k ≤ xs.length ∧ i = .int .i64 k ∧ Hid (wr.rowIs w.heap.size 3 xs.length (fun j => if j < k then .int .i64 (el xs j) else .int .i64 0)) ∧ Hid (Below w.heap.size w wr)) (fun i _ => xs.length - (intOf i).toNat)
  case atStart => exact ⟨0, Nat.zero_le _, rfl, (World.rowIs_made w _ _ _).congr (fun j _ => by simp), (Below.refl _ _).alloc (Nat.le_refl _) _⟩
  case round =>
    obtain ⟨k, hk, rfl, hrw, hbl⟩ := hrel
    by_cases hlt : k < xs.length
    · have hlt' : (k : Int) < (xs.length : Int) := by omega
      have hcx : wr.cell? ⟨b, off + k, none⟩ = some (.int .i64 (el xs k)) := (hbl.out.cell (p := ⟨b, off + k, none⟩) hb).trans (HC.out k hlt)
      have hf1 : wr.frozen? ⟨w.heap.size, k, none⟩ = false := hrw.out.frozen _
      have hc1 : wr.cell? ⟨w.heap.size, k, none⟩ = some (.int .i64 0) := by
        have := hrw.out.cell (i := k) hlt
        rwa [if_neg (by omega)] at this
      go_wp2
      go_roundw
      case rel =>
        refine ⟨k + 1, by omega, by go_num, (hrw.out.set k _).congr (fun j hj => ?_), hbl.out.setCell (Nat.le_refl _) _⟩
        by_cases e : j = k
        · subst e; simp
        · simp only [e, if_false]
          by_cases e2 : j < k
          · rw [if_pos e2, if_pos (by omega)]
          · rw [if_neg e2, if_neg (by omega)]
      case measure => simp [intOf]; omega
    · go_wp2
      go_ret
      refine ⟨rfl, .inr ⟨_, _, rfl, hrw.out.lt, fun j hj => ?_⟩, hbl.out⟩
      have := hrw.out.cell (i := j) hj
      rw [if_pos (by omega)] at this
      rw [Nat.zero_add]
      exact this

/-- cloneInts at every slice of at most 2^16 ints. -/
theorem clone_any (xs : List Int) (a : Option Addr) (c : Nat) (w : World) (hn : xs.length ≤ 65536) (h0 : a = none → c = 0) (hr : RowAt w a xs) :
    Calls Try.prog 26 #[.slice a xs.length c] w fun e w' => ∃ a' c', e = .returned (.slice a' xs.length c') ∧ RowAt w' a' xs ∧ Below w.heap.size w w' := by
  rcases hr with rfl | ⟨b, off, rfl, hb, hc⟩
  · cases a with
    | none =>
      rw [h0 rfl]
      exact (clone_nil w).mono fun e w' ⟨he, hw⟩ => ⟨none, 0, he, .inl rfl, by rw [hw]; exact Below.refl _ _⟩
    | some x => exact (clone_none x c w).mono fun e w' ⟨he, hw⟩ => ⟨_, _, he, .inl rfl, hw⟩
  · exact (clone_some xs b off c w hn hb hc).mono fun e w' ⟨he, hw, hb⟩ => ⟨_, _, he, hw, hb⟩
end Go.Proofs.Qxb6600035a
