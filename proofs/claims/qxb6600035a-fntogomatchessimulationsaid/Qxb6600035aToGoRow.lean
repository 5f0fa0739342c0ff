/-
  A slice of ints that came in, as the shell tells it, is a row as the walks want it.
-/
import Derived.Test.Qxb6600035aToGoD
import Derived.ProofKit
namespace Go.Proofs.Qxb6600035a
open Go.RowKit Go.WideShapes
open ToGo

theorem block_of_cell {w : World} {a : Addr} {v : Value} (h : w.cell? a = some v) : a.block < w.heap.size := by
  rcases Nat.lt_or_ge a.block w.heap.size with hl | hl
  · exact hl
  · have : w.heap[a.block]? = none := Array.getElem?_eq_none hl
    simp [World.cell?, this] at h

theorem rowAt_of {w : World} {a : Option Addr} {len cap : Nat} {zs : List Int}
    (h : (a = none ∧ len = 0 ∧ cap = 0 ∧ zs = []) ∨ ∃ x, a = some x ∧ len ≤ cap ∧ cap ≤ maxLen ∧ zs.length = cap ∧ (∀ i, i < zs.length → w.cell? (x.add i) = some (.int .i64 (zs.getD i 0))) ∧ ∀ n ∈ zs, (Lit.int .i64 n).wf = true) :
    ∃ xs : List Int, xs.length = len ∧ RowAt w a xs ∧ (a = none → cap = 0) ∧ len ≤ maxLen := by
  rcases h with ⟨rfl, rfl, rfl, rfl⟩ | ⟨x, rfl, hl, hm, hz, hc, _⟩
  · exact ⟨[], rfl, .inl rfl, fun _ => rfl, Nat.zero_le _⟩
  · refine ⟨zs.take len, by simp; omega, ?_, fun e => (by cases e), by omega⟩
    by_cases h0 : len = 0
    · subst h0; exact .inl (by simp)
    · obtain ⟨b, off, spot⟩ := x
      have hspot : spot = none := by simpa [Addr.add] using World.cell?_spot (hc 0 (by omega))
      subst hspot
      have hb := block_of_cell (hc 0 (by omega))
      rw [add_plain] at hb
      refine .inr ⟨b, off, rfl, hb, fun j hj => ?_⟩
      have hj' : j < len := by simp at hj; omega
      have := hc j (by omega)
      rw [add_plain] at this
      rw [this]
      simp only [el, List.getD_eq_getElem?_getD, List.getElem?_take, hj', if_true]
end Go.Proofs.Qxb6600035a
