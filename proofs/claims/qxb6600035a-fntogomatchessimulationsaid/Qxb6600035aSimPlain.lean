/-
  The simulation's stop, plain: no Go in sight.
-/
import Derived.Test.Qxb6600035aToGoPlain
namespace Go.Proofs.Qxb6600035a.ToGo

theorem valid_mono {size given : Int} {xs : List Int} (h : Valid size given xs) {i j : Nat} (hij : i ≤ j) (hj : j < xs.length) : el xs i ≤ el xs j := by
  have := valid_step h (j - i) i (by omega)
  rw [show i + (j - i) = j by omega] at this
  omega

/-- The window still grows (or is just full): given + k ≤ size. -/
theorem sim_few {size given need k : Int} {xs : List Int} {j : Nat} (h : Valid size given xs) (h1 : need ≤ size) (hk : 0 ≤ k) (hs : given + k ≤ size)
    (hj : j ≤ xs.length) (ha : ∀ i, i < j → el xs i < 0) : need ≤ given + k - ((xs.length : Int) - j) ↔ toGoN size given xs need ≤ k := by
  have hl := valid_len h
  have hg := h.2.1
  have hw : win size given = given := by unfold win; rw [if_neg (by omega)]
  rw [hw] at hl
  have hj0 : j = 0 := by
    rcases Nat.eq_zero_or_pos j with e | e
    · exact e
    · have a := ha 0 e
      have b := valid_lo h 0 (by omega)
      rw [hw] at b
      omega
  subst hj0
  have e1 : short size given xs need = need - size + xs.length := by unfold short days room; omega
  have e2 : room size given = size - given := by unfold room; rw [hw]
  have e3 : days size given xs = given - xs.length := by unfold days; rw [hw]
  unfold toGoN
  by_cases hsh : short size given xs need ≤ 0
  · rw [if_pos hsh]
    split <;> omega
  · rw [if_neg hsh]
    have b := valid_lo h (short size given xs need - 1).toNat (by omega)
    rw [hw] at *
    omega

/-- The window is full: size < given + k. -/
theorem sim_big {size given need k : Int} {xs : List Int} {j : Nat} (h : Valid size given xs) (h1 : need ≤ size) (hk : 0 ≤ k) (hs : size < given + k)
    (hj : j ≤ xs.length) (ha : ∀ i, i < j → el xs i < given + k - size) (hb : j < xs.length → given + k - size ≤ el xs j) :
    need ≤ size - ((xs.length : Int) - j) ↔ toGoN size given xs need ≤ k := by
  have hl := valid_len h
  have hbd := win_bounds h.1 h.2.1
  have e1 : short size given xs need = need - size + xs.length := by unfold short days room; omega
  have e2 : room size given = size - win size given := rfl
  have e3 : days size given xs = win size given - xs.length := rfl
  have hroom : k - room size given + (given - win size given) = given + k - size ∧ room size given ≤ k := by
    rw [e2]
    unfold win
    split <;> omega
  unfold toGoN
  by_cases hsh : short size given xs need ≤ 0
  · rw [if_pos hsh]
    split <;> omega
  · rw [if_neg hsh]
    have hn : (short size given xs need - 1).toNat < xs.length := by omega
    by_cases hc : (short size given xs need - 1).toNat < j
    · have := ha _ hc
      omega
    · have a := hb (by omega)
      have b := valid_mono h (i := j) (j := (short size given xs need - 1).toNat) (by omega) hn
      omega
end Go.Proofs.Qxb6600035a.ToGo
