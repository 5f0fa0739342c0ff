/-
  Six decimal digits: the plain mathematics.
-/
import Derived.Test.Qxb6600035aIsCode
import Derived.Laws.BytesArg
namespace Go.Proofs.Qxb6600035a
namespace Pad

/-- The byte at place j of n, written as six digits. -/
def dg (n j : Nat) : Nat := 48 + n / 10 ^ (5 - j) % 10
/-- n written as six digits. -/
def nums (n : Nat) : List Int := (List.range 6).map fun j => ((dg n j : Nat) : Int)
def pad (n : Nat) : ByteArray := strOfNums (nums n)
/-- Byte j of a string. -/
def by_ (s : ByteArray) (j : Nat) : Nat := (s.data.toList[j]?.getD 0).toNat
/-- The first k digits, read as a number. -/
def val (s : ByteArray) : Nat → Nat
  | 0 => 0
  | k + 1 => val s k * 10 + (by_ s k - 48)

theorem by_eq {s : ByteArray} {j : Nat} (h : j < s.size) : by_ s j = s[j].toNat := by
  have h' : j < s.data.toList.length := by simpa using h
  unfold by_
  rw [List.getElem?_eq_getElem h', Array.getElem_toList]
  rfl
theorem dg_bd (n j : Nat) : 48 ≤ dg n j ∧ dg n j ≤ 57 := by unfold dg; omega
theorem nums_length (n : Nat) : (nums n).length = 6 := by simp [nums]
theorem pad_size (n : Nat) : (pad n).size = 6 := by rw [pad, strOfNums_size, nums_length]
theorem nums_getD (n j : Nat) (h : j < 6) : (nums n).getD j 0 = (dg n j : Int) := by
  simp [nums, List.getD_eq_getElem?_getD, h]
theorem pad_code (n : Nat) : codeB (pad n) = true := by
  have : (pad n).data.toList.all digB = true := by
    rw [pad, strOfNums_data, List.all_eq_true]
    intro x hx
    simp only [nums, List.map_map, List.mem_map, List.mem_range, Function.comp] at hx
    obtain ⟨j, _, rfl⟩ := hx
    have hb := dg_bd n j
    simp only [digB, Int.toNat_natCast, decide_eq_true_eq]
    rw [UInt8.toNat_ofNat_of_lt' (by show _ < 256; omega)]
    exact hb
  simp [codeB, pad_size, this]
theorem val_lt {s : ByteArray} (hd : ∀ j, j < 6 → 48 ≤ by_ s j ∧ by_ s j ≤ 57) : ∀ k, k ≤ 6 → val s k < 10 ^ k := by
  intro k
  induction k with
  | zero => intro _; simp [val]
  | succ k ih =>
    intro hk
    have h1 := ih (by omega)
    have h2 := hd k (by omega)
    simp only [val, Nat.pow_succ]
    omega
theorem val_bound {s : ByteArray} (hd : ∀ j, j < 6 → 48 ≤ by_ s j ∧ by_ s j ≤ 57) : ∀ k, k ≤ 6 → val s k ≤ 999999 := by
  intro k hk
  have h1 := val_lt hd k hk
  have h2 : 10 ^ k ≤ 10 ^ 6 := Nat.pow_le_pow_right (by omega) hk
  omega
theorem dg_val {s : ByteArray} (hd : ∀ j, j < 6 → 48 ≤ by_ s j ∧ by_ s j ≤ 57) : ∀ j, j < 6 → dg (val s 6) j = by_ s j := by
  have h0 := hd 0 (by omega)
  have h1 := hd 1 (by omega)
  have h2 := hd 2 (by omega)
  have h3 := hd 3 (by omega)
  have h4 := hd 4 (by omega)
  have h5 := hd 5 (by omega)
  have e : val s 6 = (((((by_ s 0 - 48) * 10 + (by_ s 1 - 48)) * 10 + (by_ s 2 - 48)) * 10 + (by_ s 3 - 48)) * 10 + (by_ s 4 - 48)) * 10 + (by_ s 5 - 48) := by simp [val]
  intro j hj
  unfold dg
  rw [e]
  rcases j with _ | _ | _ | _ | _ | _ | j
  · show 48 + _ / 100000 % 10 = by_ s 0; omega
  · show 48 + _ / 10000 % 10 = by_ s 1; omega
  · show 48 + _ / 1000 % 10 = by_ s 2; omega
  · show 48 + _ / 100 % 10 = by_ s 3; omega
  · show 48 + _ / 10 % 10 = by_ s 4; omega
  · show 48 + _ / 1 % 10 = by_ s 5; omega
  · omega
theorem code_digits {s : ByteArray} (h : codeB s = true) : s.size = 6 ∧ ∀ j, j < 6 → 48 ≤ by_ s j ∧ by_ s j ≤ 57 := by
  unfold codeB at h
  rw [Bool.and_eq_true] at h
  have h6 : s.size = 6 := of_decide_eq_true h.1
  refine ⟨h6, fun j hj => ?_⟩
  have hj' : j < s.data.toList.length := by simpa [h6] using hj
  have := List.all_eq_true.1 h.2 _ (List.getElem_mem hj')
  unfold by_
  rw [List.getElem?_eq_getElem hj']
  exact of_decide_eq_true this
theorem pad_val {s : ByteArray} (h : codeB s = true) : pad (val s 6) = s := by
  obtain ⟨h6, hd⟩ := code_digits h
  apply ByteArray.ext
  apply Array.ext'
  rw [pad, strOfNums_data]
  apply List.ext_getElem
  · simp [nums_length, h6]
  · intro j h1 h2
    have hj : j < 6 := by simpa [nums] using h1
    have e := dg_val hd j hj
    have hb : by_ s j = (s.data.toList[j]).toNat := by unfold by_; rw [List.getElem?_eq_getElem h2]; rfl
    simp only [nums, List.getElem_map, List.getElem_range, Int.toNat_natCast]
    rw [e, hb]
    simp
end Pad
end Go.Proofs.Qxb6600035a
