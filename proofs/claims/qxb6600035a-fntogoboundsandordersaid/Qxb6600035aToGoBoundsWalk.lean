/-
  The walk of FnToGoBoundsAndOrder (9).
-/
import Derived.Test.Qxb6600035aToGoD
namespace Go.Proofs.Qxb6600035a
open Go.RowKit
open ToGo
namespace Bounds

set_option maxHeartbeats 400000 in
theorem bytes_yes (x y z : Int) (a : Option Addr) (n c : Nat) (w : World) (h : n ≤ 1048576) :
    Calls Try.prog 29 #[.int .i64 x, .int .i64 y, .slice a n c, .int .i64 z] w fun e w' => e = .returned (.bool true) ∧ w' = w := by
  go_enter Try.func29, Try.ntmps29
  go_wp2
  go_ret
  exact ⟨rfl, rfl⟩
set_option maxHeartbeats 400000 in
theorem bytes_no (x y z : Int) (a : Option Addr) (n c : Nat) (w : World) (h : 1048576 < n) :
    Calls Try.prog 29 #[.int .i64 x, .int .i64 y, .slice a n c, .int .i64 z] w fun e w' => e = .returned (.bool false) ∧ w' = w := by
  go_enter Try.func29, Try.ntmps29
  go_wp2
  go_ret
  exact ⟨rfl, rfl⟩

set_option maxHeartbeats 400000 in
theorem far (size given need : Int) (a : Option Addr) (n c : Nat) (w : World) (h : 1048576 < n) :
    Calls Try.prog 9 #[.int .i64 size, .int .i64 given, .slice a n c, .int .i64 need] w fun e w' => e = .returned (.bool true) ∧ Below w.heap.size w w' := by
  go_enter Try.func9, Try.ntmps9
  go_wp2_with (go_at_call 29; refine (bytes_no _ _ _ _ _ _ _ h).mono ?_; rintro e w' ⟨rfl, rfl⟩)
  go_ret
  exact ⟨rfl, Below.refl _ _⟩
set_option maxHeartbeats 400000 in
theorem long (size given need : Int) (a : Option Addr) (n c : Nat) (w : World) (h : n ≤ 1048576) (h' : 65536 < n) :
    Calls Try.prog 9 #[.int .i64 size, .int .i64 given, .slice a n c, .int .i64 need] w fun e w' => e = .returned (.bool true) ∧ Below w.heap.size w w' := by
  go_enter Try.func9, Try.ntmps9
  go_wp2_with (go_at_call 29; refine (bytes_yes _ _ _ _ _ _ _ h).mono ?_; rintro e w' ⟨rfl, rfl⟩)
  go_ret
  exact ⟨rfl, Below.refl _ _⟩
set_option maxHeartbeats 400000 in
theorem odd (size given need : Int) (a : Option Addr) (n c : Nat) (w : World) (h : n ≤ 1048576) (h' : n ≤ 65536) (ho : size < 1 ∨ given < 0 ∨ need < 0 ∨ size < need) :
    Calls Try.prog 9 #[.int .i64 size, .int .i64 given, .slice a n c, .int .i64 need] w fun e w' => e = .returned (.bool true) ∧ Below w.heap.size w w' := by
  by_cases h1 : size < 1
  · clear ho
    go_enter Try.func9, Try.ntmps9
    go_wp2_with (go_at_call 29; refine (bytes_yes _ _ _ _ _ _ _ h).mono ?_; rintro e w' ⟨rfl, rfl⟩)
    go_ret
    exact ⟨rfl, Below.refl _ _⟩
  · by_cases h2 : given < 0
    · clear ho
      go_enter Try.func9, Try.ntmps9
      go_wp2_with (go_at_call 29; refine (bytes_yes _ _ _ _ _ _ _ h).mono ?_; rintro e w' ⟨rfl, rfl⟩)
      go_ret
      exact ⟨rfl, Below.refl _ _⟩
    · by_cases h3 : need < 0
      · clear ho
        go_enter Try.func9, Try.ntmps9
        go_wp2_with (go_at_call 29; refine (bytes_yes _ _ _ _ _ _ _ h).mono ?_; rintro e w' ⟨rfl, rfl⟩)
        go_ret
        exact ⟨rfl, Below.refl _ _⟩
      · have h4 : size < need := by omega
        clear ho
        go_enter Try.func9, Try.ntmps9
        go_wp2_with (go_at_call 29; refine (bytes_yes _ _ _ _ _ _ _ h).mono ?_; rintro e w' ⟨rfl, rfl⟩)
        go_ret
        exact ⟨rfl, Below.refl _ _⟩
set_option maxHeartbeats 400000 in
theorem bad (size given need : Int) (xs : List Int) (a : Option Addr) (c : Nat) (w : World) (h : xs.length ≤ 65536) (h1 : 1 ≤ size) (h2 : size ≤ 9223372036854775807) (h3 : 0 ≤ given) (h4 : given ≤ 9223372036854775807) (h5 : 0 ≤ need) (h6 : need ≤ size)
    (hr : RowAt w a xs) (hv : ¬ Valid size given xs) :
    Calls Try.prog 9 #[.int .i64 size, .int .i64 given, .slice a xs.length c, .int .i64 need] w fun e w' => e = .returned (.bool true) ∧ Below w.heap.size w w' := by
  have hb : xs.length ≤ 1048576 := by omega
  have hn : xs.length ≤ 9223372036854775807 := by omega
  have HR : Hid (RowAt w a xs) := hr
  have HV : Hid (¬ Valid size given xs) := hv
  clear hr hv
  go_enter Try.func9, Try.ntmps9
  go_wp2_with (first | (go_at_call 29; refine (bytes_yes _ _ _ _ _ _ _ hb).mono ?_; rintro e w' ⟨rfl, hw⟩; obtain rfl := hw.symm) | (go_at_call 25; refine (valid_no _ _ _ _ _ _ h1 h2 h3 h4 hn HR.out HV.out).mono ?_; rintro e w' ⟨rfl, hw⟩; obtain rfl := hw.symm))
  go_ret
  exact ⟨rfl, Below.refl _ _⟩
set_option maxHeartbeats 800000 in
theorem good_big (size given need : Int) (xs : List Int) (a : Option Addr) (c : Nat) (w : World) (h : xs.length ≤ 65536) (h1 : 1 ≤ size) (h2 : size ≤ 9223372036854775807) (h3 : 0 ≤ given) (h4 : given ≤ 9223372036854775807) (h5 : 0 ≤ need) (h6 : need ≤ size)
    (hr : RowAt w a xs) (h0 : a = none → c = 0) (hv : Valid size given xs) (hw : size < given) :
    Calls Try.prog 9 #[.int .i64 size, .int .i64 given, .slice a xs.length c, .int .i64 need] w fun e w' => e = .returned (.bool true) ∧ Below w.heap.size w w' := by
  have hb : xs.length ≤ 1048576 := by omega
  have hn : xs.length ≤ 9223372036854775807 := by omega
  have hwn : win size given = size := by unfold win; rw [if_pos hw]
  have hl : (xs.length : Int) ≤ size := by have := valid_len hv; rw [hwn] at this; exact this
  have hd : days size given xs = size - (xs.length : Int) := by unfold days; rw [hwn]
  obtain ⟨t1, t2, t3⟩ := toGo_bounds hv h5 h6
  rw [hd] at t3
  have HR : Hid (RowAt w a xs) := hr
  have HV : Hid (Valid size given xs) := hv
  have H0 : Hid (a = none → c = 0) := h0
  have HM : Hid (need < size → toGoN size given xs need ≤ toGoN size given xs (need + 1) ∧ (size - (xs.length : Int) ≤ need → toGoN size given xs need < toGoN size given xs (need + 1))) := fun hlt => by
    have := toGo_order hv hlt; rw [hd] at this; exact this
  have HU : Hid (need < size → toGoN size given xs (need + 1) ≤ need + 1) := fun hlt => (toGo_bounds hv (by omega) (by omega)).2.1
  clear hr hv hwn hd h0
  by_cases hlt : need < size
  · have m1 := (HM.out hlt).1
    have m2 := HU.out hlt
    by_cases hq : size - (xs.length : Int) ≤ need
    · have m3 := (HM.out hlt).2 hq
      go_enter Try.func9, Try.ntmps9
      go_wp2_with (first | (go_at_call 29; refine (bytes_yes _ _ _ _ _ _ _ hb).mono ?_; rintro e w' ⟨rfl, hw⟩; obtain rfl := hw.symm) | (go_at_call 25; refine (valid_yes _ _ _ _ _ _ h1 h2 h3 h4 hn HR.out HV.out).mono ?_; rintro e w' ⟨rfl, hw⟩; obtain rfl := hw.symm))
      refine (clone_any xs _ _ _ h H0.out HR.out).mono ?_
      rintro e w1 ⟨a1, c1, rfl, hr1, hb1⟩
      have HR1 : Hid (RowAt w1 a1 xs) := hr1
      have HB1 : Hid (Below w.heap.size w w1) := hb1
      clear hr1 hb1
      go_wp2_with fail
      refine (zzToGo_any size given need xs _ _ _ HV.out h2 h4 h h5 h6 HR1.out).mono ?_
      rintro e w2 ⟨rfl, hb2⟩
      have HR2 : Hid (RowAt w2 a1 xs) := HR1.out.below hb2 (Nat.le_refl _)
      have HB2 : Hid (Below w.heap.size w w2) := HB1.out.trans (hb2.mono HB1.out.size)
      clear hb2
      go_wp2_with fail
      refine (zzToGo_any size given (need + 1) xs _ _ _ HV.out h2 h4 h (by omega) (by omega) HR2.out).mono ?_
      rintro e w3 ⟨rfl, hb3⟩
      have HB3 : Hid (Below w.heap.size w w3) := HB2.out.trans (hb3.mono HB2.out.size)
      clear hb3
      go_wp2
      go_ret
      exact ⟨rfl, HB3.out⟩
    · have hq' : need < size - (xs.length : Int) := by omega
      go_enter Try.func9, Try.ntmps9
      go_wp2_with (first | (go_at_call 29; refine (bytes_yes _ _ _ _ _ _ _ hb).mono ?_; rintro e w' ⟨rfl, hw⟩; obtain rfl := hw.symm) | (go_at_call 25; refine (valid_yes _ _ _ _ _ _ h1 h2 h3 h4 hn HR.out HV.out).mono ?_; rintro e w' ⟨rfl, hw⟩; obtain rfl := hw.symm))
      refine (clone_any xs _ _ _ h H0.out HR.out).mono ?_
      rintro e w1 ⟨a1, c1, rfl, hr1, hb1⟩
      have HR1 : Hid (RowAt w1 a1 xs) := hr1
      have HB1 : Hid (Below w.heap.size w w1) := hb1
      clear hr1 hb1
      go_wp2_with fail
      refine (zzToGo_any size given need xs _ _ _ HV.out h2 h4 h h5 h6 HR1.out).mono ?_
      rintro e w2 ⟨rfl, hb2⟩
      have HR2 : Hid (RowAt w2 a1 xs) := HR1.out.below hb2 (Nat.le_refl _)
      have HB2 : Hid (Below w.heap.size w w2) := HB1.out.trans (hb2.mono HB1.out.size)
      clear hb2
      go_wp2_with fail
      refine (zzToGo_any size given (need + 1) xs _ _ _ HV.out h2 h4 h (by omega) (by omega) HR2.out).mono ?_
      rintro e w3 ⟨rfl, hb3⟩
      have HB3 : Hid (Below w.heap.size w w3) := HB2.out.trans (hb3.mono HB2.out.size)
      clear hb3
      go_wp2
      go_ret
      exact ⟨rfl, HB3.out⟩
  · have hlt' : size ≤ need := by omega
    go_enter Try.func9, Try.ntmps9
    go_wp2_with (first | (go_at_call 29; refine (bytes_yes _ _ _ _ _ _ _ hb).mono ?_; rintro e w' ⟨rfl, hw⟩; obtain rfl := hw.symm) | (go_at_call 25; refine (valid_yes _ _ _ _ _ _ h1 h2 h3 h4 hn HR.out HV.out).mono ?_; rintro e w' ⟨rfl, hw⟩; obtain rfl := hw.symm))
    refine (clone_any xs _ _ _ h H0.out HR.out).mono ?_
    rintro e w1 ⟨a1, c1, rfl, hr1, hb1⟩
    have HR1 : Hid (RowAt w1 a1 xs) := hr1
    have HB1 : Hid (Below w.heap.size w w1) := hb1
    clear hr1 hb1
    go_wp2_with fail
    refine (zzToGo_any size given need xs _ _ _ HV.out h2 h4 h h5 h6 HR1.out).mono ?_
    rintro e w2 ⟨rfl, hb2⟩
    have HR2 : Hid (RowAt w2 a1 xs) := HR1.out.below hb2 (Nat.le_refl _)
    have HB2 : Hid (Below w.heap.size w w2) := HB1.out.trans (hb2.mono HB1.out.size)
    clear hb2
    go_wp2
    go_ret
    exact ⟨rfl, HB2.out⟩
set_option maxHeartbeats 800000 in
theorem good_few (size given need : Int) (xs : List Int) (a : Option Addr) (c : Nat) (w : World) (h : xs.length ≤ 65536) (h1 : 1 ≤ size) (h2 : size ≤ 9223372036854775807) (h3 : 0 ≤ given) (h4 : given ≤ 9223372036854775807) (h5 : 0 ≤ need) (h6 : need ≤ size)
    (hr : RowAt w a xs) (h0 : a = none → c = 0) (hv : Valid size given xs) (hw : ¬ size < given) :
    Calls Try.prog 9 #[.int .i64 size, .int .i64 given, .slice a xs.length c, .int .i64 need] w fun e w' => e = .returned (.bool true) ∧ Below w.heap.size w w' := by
  have hb : xs.length ≤ 1048576 := by omega
  have hn : xs.length ≤ 9223372036854775807 := by omega
  have hwn : win size given = given := by unfold win; rw [if_neg hw]
  have hl : (xs.length : Int) ≤ given := by have := valid_len hv; rw [hwn] at this; exact this
  have hd : days size given xs = given - (xs.length : Int) := by unfold days; rw [hwn]
  obtain ⟨t1, t2, t3⟩ := toGo_bounds hv h5 h6
  rw [hd] at t3
  have HR : Hid (RowAt w a xs) := hr
  have HV : Hid (Valid size given xs) := hv
  have H0 : Hid (a = none → c = 0) := h0
  have HM : Hid (need < size → toGoN size given xs need ≤ toGoN size given xs (need + 1) ∧ (given - (xs.length : Int) ≤ need → toGoN size given xs need < toGoN size given xs (need + 1))) := fun hlt => by
    have := toGo_order hv hlt; rw [hd] at this; exact this
  have HU : Hid (need < size → toGoN size given xs (need + 1) ≤ need + 1) := fun hlt => (toGo_bounds hv (by omega) (by omega)).2.1
  clear hr hv hwn hd h0
  by_cases hlt : need < size
  · have m1 := (HM.out hlt).1
    have m2 := HU.out hlt
    by_cases hq : given - (xs.length : Int) ≤ need
    · have m3 := (HM.out hlt).2 hq
      go_enter Try.func9, Try.ntmps9
      go_wp2_with (first | (go_at_call 29; refine (bytes_yes _ _ _ _ _ _ _ hb).mono ?_; rintro e w' ⟨rfl, hw⟩; obtain rfl := hw.symm) | (go_at_call 25; refine (valid_yes _ _ _ _ _ _ h1 h2 h3 h4 hn HR.out HV.out).mono ?_; rintro e w' ⟨rfl, hw⟩; obtain rfl := hw.symm))
      refine (clone_any xs _ _ _ h H0.out HR.out).mono ?_
      rintro e w1 ⟨a1, c1, rfl, hr1, hb1⟩
      have HR1 : Hid (RowAt w1 a1 xs) := hr1
      have HB1 : Hid (Below w.heap.size w w1) := hb1
      clear hr1 hb1
      go_wp2_with fail
      refine (zzToGo_any size given need xs _ _ _ HV.out h2 h4 h h5 h6 HR1.out).mono ?_
      rintro e w2 ⟨rfl, hb2⟩
      have HR2 : Hid (RowAt w2 a1 xs) := HR1.out.below hb2 (Nat.le_refl _)
      have HB2 : Hid (Below w.heap.size w w2) := HB1.out.trans (hb2.mono HB1.out.size)
      clear hb2
      go_wp2_with fail
      refine (zzToGo_any size given (need + 1) xs _ _ _ HV.out h2 h4 h (by omega) (by omega) HR2.out).mono ?_
      rintro e w3 ⟨rfl, hb3⟩
      have HB3 : Hid (Below w.heap.size w w3) := HB2.out.trans (hb3.mono HB2.out.size)
      clear hb3
      go_wp2
      go_ret
      exact ⟨rfl, HB3.out⟩
    · have hq' : need < given - (xs.length : Int) := by omega
      go_enter Try.func9, Try.ntmps9
      go_wp2_with (first | (go_at_call 29; refine (bytes_yes _ _ _ _ _ _ _ hb).mono ?_; rintro e w' ⟨rfl, hw⟩; obtain rfl := hw.symm) | (go_at_call 25; refine (valid_yes _ _ _ _ _ _ h1 h2 h3 h4 hn HR.out HV.out).mono ?_; rintro e w' ⟨rfl, hw⟩; obtain rfl := hw.symm))
      refine (clone_any xs _ _ _ h H0.out HR.out).mono ?_
      rintro e w1 ⟨a1, c1, rfl, hr1, hb1⟩
      have HR1 : Hid (RowAt w1 a1 xs) := hr1
      have HB1 : Hid (Below w.heap.size w w1) := hb1
      clear hr1 hb1
      go_wp2_with fail
      refine (zzToGo_any size given need xs _ _ _ HV.out h2 h4 h h5 h6 HR1.out).mono ?_
      rintro e w2 ⟨rfl, hb2⟩
      have HR2 : Hid (RowAt w2 a1 xs) := HR1.out.below hb2 (Nat.le_refl _)
      have HB2 : Hid (Below w.heap.size w w2) := HB1.out.trans (hb2.mono HB1.out.size)
      clear hb2
      go_wp2_with fail
      refine (zzToGo_any size given (need + 1) xs _ _ _ HV.out h2 h4 h (by omega) (by omega) HR2.out).mono ?_
      rintro e w3 ⟨rfl, hb3⟩
      have HB3 : Hid (Below w.heap.size w w3) := HB2.out.trans (hb3.mono HB2.out.size)
      clear hb3
      go_wp2
      go_ret
      exact ⟨rfl, HB3.out⟩
  · have hlt' : size ≤ need := by omega
    go_enter Try.func9, Try.ntmps9
    go_wp2_with (first | (go_at_call 29; refine (bytes_yes _ _ _ _ _ _ _ hb).mono ?_; rintro e w' ⟨rfl, hw⟩; obtain rfl := hw.symm) | (go_at_call 25; refine (valid_yes _ _ _ _ _ _ h1 h2 h3 h4 hn HR.out HV.out).mono ?_; rintro e w' ⟨rfl, hw⟩; obtain rfl := hw.symm))
    refine (clone_any xs _ _ _ h H0.out HR.out).mono ?_
    rintro e w1 ⟨a1, c1, rfl, hr1, hb1⟩
    have HR1 : Hid (RowAt w1 a1 xs) := hr1
    have HB1 : Hid (Below w.heap.size w w1) := hb1
    clear hr1 hb1
    go_wp2_with fail
    refine (zzToGo_any size given need xs _ _ _ HV.out h2 h4 h h5 h6 HR1.out).mono ?_
    rintro e w2 ⟨rfl, hb2⟩
    have HR2 : Hid (RowAt w2 a1 xs) := HR1.out.below hb2 (Nat.le_refl _)
    have HB2 : Hid (Below w.heap.size w w2) := HB1.out.trans (hb2.mono HB1.out.size)
    clear hb2
    go_wp2
    go_ret
    exact ⟨rfl, HB2.out⟩
end Bounds
end Go.Proofs.Qxb6600035a
