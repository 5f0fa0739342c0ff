/-
  The plain mathematics of the window counter: no Go in sight.
-/
namespace Go.Proofs.Qxb6600035a.ToGo

/-- Element j, as a number. -/
def el (xs : List Int) (j : Nat) : Int := xs[j]?.getD 0
/-- The window's length. -/
def win (size given : Int) : Int := if size < given then size else given
def OkAt (size given : Int) (xs : List Int) (j : Nat) : Prop :=
  given - win size given ≤ el xs j ∧ el xs j ≤ given - 1 ∧ (0 < j → el xs (j - 1) < el xs j)
/-- A well-formed counter. -/
def Valid (size given : Int) (xs : List Int) : Prop :=
  1 ≤ size ∧ 0 ≤ given ∧ ∀ j, j < xs.length → OkAt size given xs j
/-- What toGo answers. -/
def days (size given : Int) (xs : List Int) : Int := win size given - xs.length
def room (size given : Int) : Int := size - win size given
def short (size given : Int) (xs : List Int) (need : Int) : Int := need - days size given xs - room size given
def toGoN (size given : Int) (xs : List Int) (need : Int) : Int :=
  if short size given xs need ≤ 0 then (if 0 < need - days size given xs then need - days size given xs else 0)
  else room size given + el xs (short size given xs need - 1).toNat - (given - win size given) + 1

theorem win_bounds {size given : Int} (h1 : 1 ≤ size) (h2 : 0 ≤ given) : 0 ≤ win size given ∧ win size given ≤ size ∧ win size given ≤ given := by
  unfold win; split <;> omega

theorem valid_lo {size given : Int} {xs : List Int} (h : Valid size given xs) : ∀ j, j < xs.length → given - win size given + j ≤ el xs j := by
  intro j
  induction j with
  | zero => intro hj; have := (h.2.2 0 hj).1; simpa using this
  | succ j ih =>
    intro hj
    have h1 := ih (by omega)
    have h2 := (h.2.2 (j + 1) hj).2.2 (by omega)
    simp only [Nat.add_sub_cancel] at h2
    omega

theorem valid_step {size given : Int} {xs : List Int} (h : Valid size given xs) (d : Nat) : ∀ j, j + d < xs.length → el xs j + d ≤ el xs (j + d) := by
  induction d with
  | zero => intro j _; simp
  | succ d ih =>
    intro j hj
    have h1 := ih j (by omega)
    have h2 := (h.2.2 (j + d + 1) (by omega)).2.2 (by omega)
    simp only [Nat.add_sub_cancel] at h2
    have e : j + (d + 1) = j + d + 1 := by omega
    rw [e]
    omega

theorem valid_hi {size given : Int} {xs : List Int} (h : Valid size given xs) (j : Nat) (hj : j < xs.length) : el xs j + ((xs.length : Int) - 1 - j) ≤ given - 1 := by
  have h1 := valid_step h (xs.length - 1 - j) j (by omega)
  have e : j + (xs.length - 1 - j) = xs.length - 1 := by omega
  rw [e] at h1
  have h2 := (h.2.2 (xs.length - 1) (by omega)).2.1
  omega

theorem valid_len {size given : Int} {xs : List Int} (h : Valid size given xs) : (xs.length : Int) ≤ win size given := by
  have hb := win_bounds h.1 h.2.1
  by_cases h0 : xs.length = 0
  · omega
  · have h1 := valid_lo h 0 (by omega)
    have h2 := valid_hi h 0 (by omega)
    omega

theorem toGo_bounds {size given : Int} {xs : List Int} {need : Int} (h : Valid size given xs) (h0 : 0 ≤ need) (h1 : need ≤ size) :
    0 ≤ toGoN size given xs need ∧ toGoN size given xs need ≤ need ∧ need - days size given xs ≤ toGoN size given xs need := by
  have hl := valid_len h
  have hb := win_bounds h.1 h.2.1
  unfold toGoN
  by_cases hs : short size given xs need ≤ 0
  · rw [if_pos hs]
    unfold days at *
    split <;> omega
  · rw [if_neg hs]
    have e1 : short size given xs need = need - size + xs.length := by unfold short days room; omega
    have e2 : room size given = size - win size given := rfl
    have e3 : days size given xs = win size given - xs.length := rfl
    have hj : (short size given xs need - 1).toNat < xs.length := by omega
    have a := valid_lo h _ hj
    have b := valid_hi h _ hj
    omega

theorem toGo_order {size given : Int} {xs : List Int} {need : Int} (h : Valid size given xs) (h1 : need < size) :
    toGoN size given xs need ≤ toGoN size given xs (need + 1) ∧ (days size given xs ≤ need → toGoN size given xs need < toGoN size given xs (need + 1)) := by
  have hl := valid_len h
  have hb := win_bounds h.1 h.2.1
  have e1 : short size given xs need = need - size + xs.length := by unfold short days room; omega
  have e1' : short size given xs (need + 1) = need + 1 - size + xs.length := by unfold short days room; omega
  have e2 : room size given = size - win size given := rfl
  have e3 : days size given xs = win size given - xs.length := rfl
  unfold toGoN
  by_cases hs : short size given xs need ≤ 0
  · rw [if_pos hs]
    by_cases hs' : short size given xs (need + 1) ≤ 0
    · rw [if_pos hs']
      split <;> split <;> omega
    · rw [if_neg hs']
      have hj : (short size given xs (need + 1) - 1).toNat < xs.length := by omega
      have a := valid_lo h _ hj
      split <;> omega
  · rw [if_neg hs, if_neg (by omega)]
    have hj : (short size given xs (need + 1) - 1).toNat < xs.length := by omega
    have a := (h.2.2 _ hj).2.2 (by omega)
    have e : (short size given xs (need + 1) - 1).toNat - 1 = (short size given xs need - 1).toNat := by omega
    rw [e] at a
    omega
end Go.Proofs.Qxb6600035a.ToGo
