/-
  The walks of isCode (32), ZZIsCode (19): 'six bytes, each an ASCII digit'.
-/
import Derived.Test.Qxb6600035aRows
import Derived.WalkKit
import Derived.WalkSpells
import Derived.WalkLawsBesides
namespace Go.Proofs.Qxb6600035a
open Go.RowKit

/-- A byte that is an ASCII digit. -/
def digB (c : UInt8) : Bool := decide (48 ≤ c.toNat ∧ c.toNat ≤ 57)
/-- Six bytes, each a digit. -/
def codeB (s : ByteArray) : Bool := decide (s.size = 6) && s.data.toList.all digB

theorem codeB_size {s : ByteArray} (h : s.size ≠ 6) : codeB s = false := by simp [codeB, h]
theorem codeB_no {s : ByteArray} {k : Nat} (hk : k < s.size) (h : digB s[k] = false) : codeB s = false := by
  have : s.data.toList.all digB = false := by
    rw [List.all_eq_false]
    refine ⟨s[k], ?_, by simp [h]⟩
    show s.data[k] ∈ _
    simp
  simp [codeB, this]
theorem codeB_yes {s : ByteArray} (h6 : s.size = 6) (h : ∀ k (hk : k < s.size), digB s[k] = true) : codeB s = true := by
  have : s.data.toList.all digB = true := by
    rw [List.all_eq_true]
    intro x hx
    obtain ⟨k, hk, rfl⟩ := List.mem_iff_getElem.1 hx
    have hk' : k < s.size := by simpa using hk
    have := h k hk'
    simp only [Array.getElem_toList]
    exact this
  simp [codeB, this, h6]

set_option maxHeartbeats 400000 in
theorem isCode_short (s : ByteArray) (w : World) (h6 : s.size ≠ 6) :
    Calls Try.prog 32 #[.string s] w fun e w' => e = .returned (.bool (codeB s)) ∧ Below w.heap.size w w' := by
  have hne : ((s.size : Int) == 6) = false := by simp; omega
  rw [codeB_size h6]
  clear h6
  go_enter Try.func32, Try.ntmps32
  go_wp2
  go_ret
  exact ⟨rfl, Below.refl _ _⟩

set_option maxHeartbeats 400000 in
theorem isCode_six (s : ByteArray) (w : World) (h6 : s.size = 6) :
    Calls Try.prog 32 #[.string s] w fun e w' => e = .returned (.bool (codeB s)) ∧ Below w.heap.size w w' := by
  have H6 : Hid (s.size = 6) := h6
  have hne : ((s.size : Int) == 6) = true := by simp; omega
  clear h6
  go_enter Try.func32, Try.ntmps32
  go_wp2
  go_loopw [4] (fun _ w' => ∃ pos : Nat, pos ≤ s.size ∧ w' = w.iter s pos ∧ ∀ k (hk : k < s.size), k < pos → digB s[k] = true) (fun _ w' => s.size - w'.iterPos w.heap.size)
  case atStart => exact ⟨0, Nat.zero_le _, rfl, fun k hk h => absurd h (by omega)⟩
  case round =>
    obtain ⟨pos, hle, rfl, hd⟩ := hrel
    have HD : Hid (∀ k (hk : k < s.size), k < pos → digB s[k] = true) := hd
    clear hd
    have hit : ∀ p, Below w.heap.size w (w.iter s p) := fun p => (Below.refl _ _).alloc (Nat.le_refl _) _
    by_cases hp : pos < s.size
    · by_cases hdg : digB s[pos] = true
      · have h1 : 48 ≤ s[pos].toNat ∧ s[pos].toNat ≤ 57 := by simpa [digB] using hdg
        obtain ⟨h1, h2⟩ := h1
        have hnx : ∀ ty, (Instr.next (.pointer (some ⟨w.heap.size, 0, none⟩)) true ty).run Try.prog (w.iter s pos) = _ := fun ty => run_next_ascii w s pos ty hp (by omega)
        have h1' : ¬ (s[pos].toNat : Int) < 48 := by omega
        have h2' : ¬ 57 < (s[pos].toNat : Int) := by omega
        have HG : Hid (digB s[pos] = true) := hdg
        clear hdg h1 h2
        go_wp2
        go_roundw
        case rel =>
          refine ⟨pos + 1, by omega, rfl, fun k hk hk1 => ?_⟩
          by_cases e : k = pos
          · subst e; exact HG.out
          · exact HD.out k hk (by omega)
        case measure => simp; omega
      · have hno : digB s[pos] = false := by simpa using hdg
        have hnd : ¬ (48 ≤ s[pos].toNat ∧ s[pos].toNat ≤ 57) := by simpa [digB] using hno
        have HC : Hid (codeB s = false) := codeB_no hp hno
        clear hdg hno
        by_cases ha : s[pos].toNat < 128
        · have hnx : ∀ ty, (Instr.next (.pointer (some ⟨w.heap.size, 0, none⟩)) true ty).run Try.prog (w.iter s pos) = _ := fun ty => run_next_ascii w s pos ty hp ha
          by_cases hlo : (s[pos].toNat : Int) < 48
          · go_wp2
            go_ret
            exact ⟨by rw [HC.out]; rfl, hit _⟩
          · have hhi : 57 < (s[pos].toNat : Int) := by omega
            go_wp2
            go_ret
            exact ⟨by rw [HC.out]; rfl, hit _⟩
        · have hnx : ∀ ty, (Instr.next (.pointer (some ⟨w.heap.size, 0, none⟩)) true ty).run Try.prog (w.iter s pos) = _ := fun ty => run_next_any w s pos ty hp
          have hh := (decode_high s pos hp (by omega)).1
          have hlo : ¬ ((Utf8.decode s pos).1 : Int) < 48 := by omega
          have hhi : 57 < ((Utf8.decode s pos).1 : Int) := by omega
          go_wp2
          go_ret
          exact ⟨by rw [HC.out]; rfl, hit _⟩
    · have hnx : ∀ ty, (Instr.next (.pointer (some ⟨w.heap.size, 0, none⟩)) true ty).run Try.prog (w.iter s pos) = _ := fun ty => run_next_end w s pos ty hp
      have HC : Hid (codeB s = true) := codeB_yes H6.out (fun k hk => HD.out k hk (by omega))
      go_wp2
      go_ret
      exact ⟨by rw [HC.out]; rfl, hit _⟩

theorem isCode_any (s : ByteArray) (w : World) :
    Calls Try.prog 32 #[.string s] w fun e w' => e = .returned (.bool (codeB s)) ∧ Below w.heap.size w w' := by
  by_cases h6 : s.size = 6
  · exact isCode_six s w h6
  · exact isCode_short s w h6

set_option maxHeartbeats 400000 in
theorem zzIsCode_any (s : ByteArray) (w : World) :
    Calls Try.prog 19 #[.string s] w fun e w' => e = .returned (.bool (codeB s)) ∧ Below w.heap.size w w' := by
  go_enter Try.func19, Try.ntmps19
  go_wp2_with (go_at_call 32; refine (isCode_any _ _).mono ?_; rintro e w' ⟨rfl, hb⟩)
  go_ret
  exact ⟨rfl, hb⟩

end Go.Proofs.Qxb6600035a
