/-
  The walk of FnToGoMatchesSimulation (8).
-/
import Derived.Test.Qxb6600035aModelAny
namespace Go.Proofs.Qxb6600035a
open Go.RowKit
open ToGo
namespace Sim

set_option maxHeartbeats 400000 in
theorem bytes_yes (x y z : Int) (a : Option Addr) (n c : Nat) (w : World) (h : n ≤ 1048576) :
    Calls Try.prog 24 #[.int .i64 x, .int .i64 y, .slice a n c, .int .i64 z] w fun e w' => e = .returned (.bool true) ∧ w' = w := by
  go_enter Try.func24, Try.ntmps24
  go_wp2
  go_ret
  exact ⟨rfl, rfl⟩
set_option maxHeartbeats 400000 in
theorem bytes_no (x y z : Int) (a : Option Addr) (n c : Nat) (w : World) (h : 1048576 < n) :
    Calls Try.prog 24 #[.int .i64 x, .int .i64 y, .slice a n c, .int .i64 z] w fun e w' => e = .returned (.bool false) ∧ w' = w := by
  go_enter Try.func24, Try.ntmps24
  go_wp2
  go_ret
  exact ⟨rfl, rfl⟩
set_option maxHeartbeats 400000 in
theorem far (size given need : Int) (a : Option Addr) (n c : Nat) (w : World) (h : 1048576 < n) :
    Calls Try.prog 8 #[.int .i64 size, .int .i64 given, .slice a n c, .int .i64 need] w fun e w' => e = .returned (.bool true) ∧ Below w.heap.size w w' := by
  go_enter Try.func8, Try.ntmps8
  go_wp2_with (go_at_call 24; refine (bytes_no _ _ _ _ _ _ _ h).mono ?_; rintro e w' ⟨rfl, rfl⟩)
  go_ret
  exact ⟨rfl, Below.refl _ _⟩
set_option maxHeartbeats 400000 in
theorem odd0 (size given need : Int) (a : Option Addr) (n c : Nat) (w : World) (h : n ≤ 1048576) (h0 : 65536 < n) :
    Calls Try.prog 8 #[.int .i64 size, .int .i64 given, .slice a n c, .int .i64 need] w fun e w' => e = .returned (.bool true) ∧ Below w.heap.size w w' := by
  go_enter Try.func8, Try.ntmps8
  go_wp2_with (go_at_call 24; refine (bytes_yes _ _ _ _ _ _ _ h).mono ?_; rintro e w' ⟨rfl, rfl⟩)
  go_ret
  exact ⟨rfl, Below.refl _ _⟩
set_option maxHeartbeats 400000 in
theorem odd1 (size given need : Int) (a : Option Addr) (n c : Nat) (w : World) (h : n ≤ 1048576) (h0 : n ≤ 65536) (h1 : size < 1) :
    Calls Try.prog 8 #[.int .i64 size, .int .i64 given, .slice a n c, .int .i64 need] w fun e w' => e = .returned (.bool true) ∧ Below w.heap.size w w' := by
  go_enter Try.func8, Try.ntmps8
  go_wp2_with (go_at_call 24; refine (bytes_yes _ _ _ _ _ _ _ h).mono ?_; rintro e w' ⟨rfl, rfl⟩)
  go_ret
  exact ⟨rfl, Below.refl _ _⟩
set_option maxHeartbeats 400000 in
theorem odd2 (size given need : Int) (a : Option Addr) (n c : Nat) (w : World) (h : n ≤ 1048576) (h0 : n ≤ 65536) (h1 : 65536 < size) :
    Calls Try.prog 8 #[.int .i64 size, .int .i64 given, .slice a n c, .int .i64 need] w fun e w' => e = .returned (.bool true) ∧ Below w.heap.size w w' := by
  go_enter Try.func8, Try.ntmps8
  go_wp2_with (go_at_call 24; refine (bytes_yes _ _ _ _ _ _ _ h).mono ?_; rintro e w' ⟨rfl, rfl⟩)
  go_ret
  exact ⟨rfl, Below.refl _ _⟩
set_option maxHeartbeats 400000 in
theorem odd3 (size given need : Int) (a : Option Addr) (n c : Nat) (w : World) (h : n ≤ 1048576) (h0 : n ≤ 65536) (h1 : 1 ≤ size) (h2 : size ≤ 65536) (h3 : given < 0) :
    Calls Try.prog 8 #[.int .i64 size, .int .i64 given, .slice a n c, .int .i64 need] w fun e w' => e = .returned (.bool true) ∧ Below w.heap.size w w' := by
  go_enter Try.func8, Try.ntmps8
  go_wp2_with (go_at_call 24; refine (bytes_yes _ _ _ _ _ _ _ h).mono ?_; rintro e w' ⟨rfl, rfl⟩)
  go_ret
  exact ⟨rfl, Below.refl _ _⟩
set_option maxHeartbeats 400000 in
theorem odd4 (size given need : Int) (a : Option Addr) (n c : Nat) (w : World) (h : n ≤ 1048576) (h0 : n ≤ 65536) (h1 : 1 ≤ size) (h2 : size ≤ 65536) (h3 : 0 ≤ given) (h4 : 9223372036854775807 - size < given) :
    Calls Try.prog 8 #[.int .i64 size, .int .i64 given, .slice a n c, .int .i64 need] w fun e w' => e = .returned (.bool true) ∧ Below w.heap.size w w' := by
  go_enter Try.func8, Try.ntmps8
  go_wp2_with (go_at_call 24; refine (bytes_yes _ _ _ _ _ _ _ h).mono ?_; rintro e w' ⟨rfl, rfl⟩)
  go_ret
  exact ⟨rfl, Below.refl _ _⟩
set_option maxHeartbeats 400000 in
theorem odd5 (size given need : Int) (a : Option Addr) (n c : Nat) (w : World) (h : n ≤ 1048576) (h0 : n ≤ 65536) (h1 : 1 ≤ size) (h2 : size ≤ 65536) (h3 : 0 ≤ given) (h4 : given ≤ 9223372036854775807 - size) (h5 : need < 0) :
    Calls Try.prog 8 #[.int .i64 size, .int .i64 given, .slice a n c, .int .i64 need] w fun e w' => e = .returned (.bool true) ∧ Below w.heap.size w w' := by
  go_enter Try.func8, Try.ntmps8
  go_wp2_with (go_at_call 24; refine (bytes_yes _ _ _ _ _ _ _ h).mono ?_; rintro e w' ⟨rfl, rfl⟩)
  go_ret
  exact ⟨rfl, Below.refl _ _⟩
set_option maxHeartbeats 400000 in
theorem odd6 (size given need : Int) (a : Option Addr) (n c : Nat) (w : World) (h : n ≤ 1048576) (h0 : n ≤ 65536) (h1 : 1 ≤ size) (h2 : size ≤ 65536) (h3 : 0 ≤ given) (h4 : given ≤ 9223372036854775807 - size) (h5 : 0 ≤ need) (h6 : size < need) :
    Calls Try.prog 8 #[.int .i64 size, .int .i64 given, .slice a n c, .int .i64 need] w fun e w' => e = .returned (.bool true) ∧ Below w.heap.size w w' := by
  go_enter Try.func8, Try.ntmps8
  go_wp2_with (go_at_call 24; refine (bytes_yes _ _ _ _ _ _ _ h).mono ?_; rintro e w' ⟨rfl, rfl⟩)
  go_ret
  exact ⟨rfl, Below.refl _ _⟩
set_option maxHeartbeats 400000 in
theorem bad (size given need : Int) (xs : List Int) (a : Option Addr) (c : Nat) (w : World) (h : xs.length ≤ 65536) (h1 : 1 ≤ size) (h2 : size ≤ 65536) (h3 : 0 ≤ given) (h4 : given ≤ 9223372036854775807 - size) (h5 : 0 ≤ need) (h6 : need ≤ size)
    (hr : RowAt w a xs) (hv : ¬ Valid size given xs) :
    Calls Try.prog 8 #[.int .i64 size, .int .i64 given, .slice a xs.length c, .int .i64 need] w fun e w' => e = .returned (.bool true) ∧ Below w.heap.size w w' := by
  have hb : xs.length ≤ 1048576 := by omega
  have hn : xs.length ≤ 9223372036854775807 := by omega
  have HR : Hid (RowAt w a xs) := hr
  have HV : Hid (¬ Valid size given xs) := hv
  clear hr hv
  go_enter Try.func8, Try.ntmps8
  go_wp2_with (first | (go_at_call 24; refine (bytes_yes _ _ _ _ _ _ _ hb).mono ?_; rintro e w' ⟨rfl, hw⟩; obtain rfl := hw.symm) | (go_at_call 25; refine (valid_no _ _ _ _ _ _ h1 (by omega) h3 (by omega) hn HR.out HV.out).mono ?_; rintro e w' ⟨rfl, hw⟩; obtain rfl := hw.symm))
  go_ret
  exact ⟨rfl, Below.refl _ _⟩
set_option maxHeartbeats 800000 in
theorem good (size given need : Int) (xs : List Int) (a : Option Addr) (c : Nat) (w : World) (h : xs.length ≤ 65536) (h1 : 1 ≤ size) (h2 : size ≤ 65536) (h3 : 0 ≤ given) (h4 : given ≤ 9223372036854775807 - size) (h5 : 0 ≤ need) (h6 : need ≤ size)
    (hr : RowAt w a xs) (h0 : a = none → c = 0) (hv : Valid size given xs) :
    Calls Try.prog 8 #[.int .i64 size, .int .i64 given, .slice a xs.length c, .int .i64 need] w fun e w' => e = .returned (.bool true) ∧ Below w.heap.size w w' := by
  have hb : xs.length ≤ 1048576 := by omega
  have hn : xs.length ≤ 9223372036854775807 := by omega
  have g2 : size ≤ 9223372036854775807 := by omega
  have g4 : given ≤ 9223372036854775807 := by omega
  have HR : Hid (RowAt w a xs) := hr
  have HV : Hid (Valid size given xs) := hv
  have H0 : Hid (a = none → c = 0) := h0
  clear hr hv h0
  go_enter Try.func8, Try.ntmps8
  go_wp2_with (first | (go_at_call 24; refine (bytes_yes _ _ _ _ _ _ _ hb).mono ?_; rintro e w' ⟨rfl, hw⟩; obtain rfl := hw.symm) | (go_at_call 25; refine (valid_yes _ _ _ _ _ _ h1 g2 h3 g4 hn HR.out HV.out).mono ?_; rintro e w' ⟨rfl, hw⟩; obtain rfl := hw.symm))
  refine (clone_any xs _ _ _ h H0.out HR.out).mono ?_
  rintro e w1 ⟨a1, c1, rfl, hr1, hb1⟩
  have HR1 : Hid (RowAt w1 a1 xs) := hr1
  have HB1 : Hid (Below w.heap.size w w1) := hb1
  clear hr1 hb1
  go_wp2_with fail
  refine (zzToGo_any size given need xs _ _ _ HV.out g2 g4 h h5 h6 HR1.out).mono ?_
  rintro e w2 ⟨rfl, hb2⟩
  have HR2 : Hid (RowAt w2 a1 xs) := HR1.out.below hb2 (Nat.le_refl _)
  have HB2 : Hid (Below w.heap.size w w2) := HB1.out.trans (hb2.mono HB1.out.size)
  clear hb2
  go_wp2_with fail
  refine (model_any size given need xs _ _ _ HV.out h2 h4 h h5 h6 HR2.out).mono ?_
  rintro e w3 ⟨rfl, hw⟩
  obtain rfl := hw.symm
  go_wp2
  go_ret
  exact ⟨by simp, HB2.out⟩
end Sim
end Go.Proofs.Qxb6600035a
