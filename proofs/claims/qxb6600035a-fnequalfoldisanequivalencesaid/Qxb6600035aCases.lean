/-
  The walks of upperOf (15), lowerOf (16).
-/
import Derived.Test.Qxb6600035aFold
import Derived.Deep.OwnRows
import Derived.Laws.BytesArg
namespace Go.Proofs.Qxb6600035a
open Go.RowKit

theorem Try.info5 : (Try.prog.info? 5).map (fun i => (i.zero, i.size, i.bytes)) = some (some (.int .u8 0), 1, 1) := by kernel_rfl

/-- Byte j of a string. -/
def byteAt (s : ByteArray) (j : Nat) : UInt8 := s.data.toList[j]?.getD 0
theorem byteAt_eq {s : ByteArray} {j : Nat} (h : j < s.size) : byteAt s j = s[j] := by
  have h' : j < s.data.toList.length := by simpa using h
  unfold byteAt
  rw [List.getElem?_eq_getElem h', Array.getElem_toList]
  rfl

/-- A byte in upper case; in lower case. -/
def upC (c : UInt8) : Int := if 97 ≤ c.toNat ∧ c.toNat ≤ 122 then (c.toNat : Int) - 32 else c.toNat
def loC (c : UInt8) : Int := if 65 ≤ c.toNat ∧ c.toNat ≤ 90 then (c.toNat : Int) + 32 else c.toNat
theorem low_ofNat {n : Nat} (h : n < 256) : lowN (UInt8.ofNat n) = lowNat n := by
  unfold lowN
  rw [UInt8.toNat_ofNat_of_lt' (by simpa using h)]
theorem low_upC (c : UInt8) : lowN (UInt8.ofNat (upC c).toNat) = lowN c := by
  have hc : c.toNat < 256 := c.toNat_lt
  unfold upC
  split
  · rw [low_ofNat (by omega)]; unfold lowN lowNat; rw [if_pos (by omega), if_neg (by omega)]; omega
  · rw [low_ofNat (by omega)]; unfold lowN; congr 1
theorem low_loC (c : UInt8) : lowN (UInt8.ofNat (loC c).toNat) = lowN c := by
  have hc : c.toNat < 256 := c.toNat_lt
  unfold loC
  split
  · rw [low_ofNat (by omega)]; unfold lowN lowNat; rw [if_neg (by omega), if_pos (by omega)]; omega
  · rw [low_ofNat (by omega)]; unfold lowN; congr 1
theorem lowL_map {f : UInt8 → Int} (hf : ∀ c, lowN (UInt8.ofNat (f c).toNat) = lowN c) (s : ByteArray) : lowL (strOfNums (s.data.toList.map f)) = lowL s := by
  unfold lowL
  rw [strOfNums_data, List.map_map, List.map_map]
  apply List.map_congr_left
  intro c _
  exact hf c
theorem map_getD (f : UInt8 → Int) (s : ByteArray) (j : Nat) (h : j < s.size) : (s.data.toList.map f).getD j 0 = f (byteAt s j) := by
  have h' : j < s.data.toList.length := by simpa using h
  unfold byteAt
  rw [List.getD_eq_getElem?_getD, List.getElem?_map, List.getElem?_eq_getElem h']
  rfl

set_option maxHeartbeats 800000 in
theorem upper_any (s : ByteArray) (w : World) (hs : s.size ≤ 1048576) :
    Calls Try.prog 15 #[.string s] w fun e w' => e = .returned (.string (strOfNums (s.data.toList.map upC))) ∧ Below w.heap.size w w' := by
  have hmk : ∀ w : World, (Instr.makeSlice 37 (.int .i64 (s.size : Int)) (.int .i64 (s.size : Int))).run Try.prog w = .ok (.slice (some ⟨w.heap.size, 0, none⟩) s.size s.size) (w.alloc (.cells (madeCells #[.int .u8 0] s.size) 5)) := fun w =>
    run_make_row' (P := Try.prog) 37 5 (.int .u8 0) 1 Try.underlying37 Try.info5 rfl .i64 .i64 s.size (by omega) (by omega) w
  go_enter Try.func15, Try.ntmps15
  go_wp2
  go_loopw [4] (fun i wr => ∃ k : Nat, k ≤ s.size ∧ i = .int .i64 k ∧ Hid (wr.rowIs w.heap.size 5 s.size (fun j => if j < k then .int .u8 (upC (byteAt s j)) else .int .u8 0)) ∧ Hid (Below w.heap.size w wr)) (fun i _ => s.size - (intOf i).toNat)
  case atStart => exact ⟨0, Nat.zero_le _, rfl, (World.rowIs_made w _ _ _).congr (fun j _ => by simp), (Below.refl _ _).alloc (Nat.le_refl _) _⟩
  case round =>
    obtain ⟨k, hk, rfl, hrw, hbl⟩ := hrel
    by_cases hlt : k < s.size
    · have hlt' : (k : Int) < (s.size : Int) := by omega
      have hf1 : wr.frozen? ⟨w.heap.size, k, none⟩ = false := hrw.out.frozen _
      have hc1 : wr.cell? ⟨w.heap.size, k, none⟩ = some (.int .u8 0) := by
        have := hrw.out.cell (i := k) hlt
        rwa [if_neg (by omega)] at this
      have hby : s[k].toNat < 256 := s[k].toNat_lt
      have step : ∀ v : Int, upC s[k] = v → (wr.setCell ⟨w.heap.size, k, none⟩ (.int .u8 v)).rowIs w.heap.size 5 s.size (fun j => if j < k + 1 then .int .u8 (upC (byteAt s j)) else .int .u8 0) := fun v hv =>
        (hrw.out.set k _).congr (fun j hj => by
          by_cases e : j = k
          · subst e; simp only [if_true]; rw [if_pos (by omega), byteAt_eq hlt, hv]
          · simp only [e, if_false]
            by_cases e2 : j < k
            · rw [if_pos e2, if_pos (by omega)]
            · rw [if_neg e2, if_neg (by omega)])
      have ST : Hid (∀ v : Int, upC s[k] = v → (wr.setCell ⟨w.heap.size, k, none⟩ (.int .u8 v)).rowIs w.heap.size 5 s.size (fun j => if j < k + 1 then .int .u8 (upC (byteAt s j)) else .int .u8 0)) := step
      clear step
      by_cases h1 : (97 : Int) ≤ (s[k].toNat : Int)
      · by_cases h2 : (s[k].toNat : Int) ≤ 122
        · have HU : Hid (upC s[k] = (s[k].toNat : Int) - 32) := by unfold Hid upC; rw [if_pos (by omega)]
          go_wp2
          go_roundw
          case rel => exact ⟨k + 1, by omega, by go_num, ST.out _ HU.out, hbl.out.setCell (Nat.le_refl _) _⟩
          case measure => simp [intOf]; omega
        · have HU : Hid (upC s[k] = (s[k].toNat : Int)) := by unfold Hid upC; rw [if_neg (by omega)]
          go_wp2
          go_roundw
          case rel => exact ⟨k + 1, by omega, by go_num, ST.out _ HU.out, hbl.out.setCell (Nat.le_refl _) _⟩
          case measure => simp [intOf]; omega
      · have HU : Hid (upC s[k] = (s[k].toNat : Int)) := by unfold Hid upC; rw [if_neg (by omega)]
        go_wp2
        go_roundw
        case rel => exact ⟨k + 1, by omega, by go_num, ST.out _ HU.out, hbl.out.setCell (Nat.le_refl _) _⟩
        case measure => simp [intOf]; omega
    · have g := run_convert_bytes_arg (P := Try.prog) wr 37 5 Try.underlying37 Try.underlying5 w.heap.size 0 s.size s.size (s.data.toList.map upC) (by simp) (fun i hi => by
        rw [Nat.zero_add, hrw.out.cell hi, if_pos (by omega), map_getD _ _ _ hi]) 9 Try.underlying9
      go_wp2
      go_ret
      exact ⟨rfl, hbl.out⟩
set_option maxHeartbeats 800000 in
theorem lowerOf_any (s : ByteArray) (w : World) (hs : s.size ≤ 1048576) :
    Calls Try.prog 16 #[.string s] w fun e w' => e = .returned (.string (strOfNums (s.data.toList.map loC))) ∧ Below w.heap.size w w' := by
  have hmk : ∀ w : World, (Instr.makeSlice 37 (.int .i64 (s.size : Int)) (.int .i64 (s.size : Int))).run Try.prog w = .ok (.slice (some ⟨w.heap.size, 0, none⟩) s.size s.size) (w.alloc (.cells (madeCells #[.int .u8 0] s.size) 5)) := fun w =>
    run_make_row' (P := Try.prog) 37 5 (.int .u8 0) 1 Try.underlying37 Try.info5 rfl .i64 .i64 s.size (by omega) (by omega) w
  go_enter Try.func16, Try.ntmps16
  go_wp2
  go_loopw [4] (fun i wr => ∃ k : Nat, k ≤ s.size ∧ i = .int .i64 k ∧ Hid (wr.rowIs w.heap.size 5 s.size (fun j => if j < k then .int .u8 (loC (byteAt s j)) else .int .u8 0)) ∧ Hid (Below w.heap.size w wr)) (fun i _ => s.size - (intOf i).toNat)
  case atStart => exact ⟨0, Nat.zero_le _, rfl, (World.rowIs_made w _ _ _).congr (fun j _ => by simp), (Below.refl _ _).alloc (Nat.le_refl _) _⟩
  case round =>
    obtain ⟨k, hk, rfl, hrw, hbl⟩ := hrel
    by_cases hlt : k < s.size
    · have hlt' : (k : Int) < (s.size : Int) := by omega
      have hf1 : wr.frozen? ⟨w.heap.size, k, none⟩ = false := hrw.out.frozen _
      have hc1 : wr.cell? ⟨w.heap.size, k, none⟩ = some (.int .u8 0) := by
        have := hrw.out.cell (i := k) hlt
        rwa [if_neg (by omega)] at this
      have hby : s[k].toNat < 256 := s[k].toNat_lt
      have step : ∀ v : Int, loC s[k] = v → (wr.setCell ⟨w.heap.size, k, none⟩ (.int .u8 v)).rowIs w.heap.size 5 s.size (fun j => if j < k + 1 then .int .u8 (loC (byteAt s j)) else .int .u8 0) := fun v hv =>
        (hrw.out.set k _).congr (fun j hj => by
          by_cases e : j = k
          · subst e; simp only [if_true]; rw [if_pos (by omega), byteAt_eq hlt, hv]
          · simp only [e, if_false]
            by_cases e2 : j < k
            · rw [if_pos e2, if_pos (by omega)]
            · rw [if_neg e2, if_neg (by omega)])
      have ST : Hid (∀ v : Int, loC s[k] = v → (wr.setCell ⟨w.heap.size, k, none⟩ (.int .u8 v)).rowIs w.heap.size 5 s.size (fun j => if j < k + 1 then .int .u8 (loC (byteAt s j)) else .int .u8 0)) := step
      clear step
      by_cases h1 : (65 : Int) ≤ (s[k].toNat : Int)
      · by_cases h2 : (s[k].toNat : Int) ≤ 90
        · have HU : Hid (loC s[k] = (s[k].toNat : Int) + 32) := by unfold Hid loC; rw [if_pos (by omega)]
          go_wp2
          go_roundw
          case rel => exact ⟨k + 1, by omega, by go_num, ST.out _ HU.out, hbl.out.setCell (Nat.le_refl _) _⟩
          case measure => simp [intOf]; omega
        · have HU : Hid (loC s[k] = (s[k].toNat : Int)) := by unfold Hid loC; rw [if_neg (by omega)]
          go_wp2
          go_roundw
          case rel => exact ⟨k + 1, by omega, by go_num, ST.out _ HU.out, hbl.out.setCell (Nat.le_refl _) _⟩
          case measure => simp [intOf]; omega
      · have HU : Hid (loC s[k] = (s[k].toNat : Int)) := by unfold Hid loC; rw [if_neg (by omega)]
        go_wp2
        go_roundw
        case rel => exact ⟨k + 1, by omega, by go_num, ST.out _ HU.out, hbl.out.setCell (Nat.le_refl _) _⟩
        case measure => simp [intOf]; omega
    · have g := run_convert_bytes_arg (P := Try.prog) wr 37 5 Try.underlying37 Try.underlying5 w.heap.size 0 s.size s.size (s.data.toList.map loC) (by simp) (fun i hi => by
        rw [Nat.zero_add, hrw.out.cell hi, if_pos (by omega), map_getD _ _ _ hi]) 9 Try.underlying9
      go_wp2
      go_ret
      exact ⟨rfl, hbl.out⟩
end Go.Proofs.Qxb6600035a
