/-
  'Rows.FnIsCodeMatchesByteModelSaid' PROVED. The frame is the shell's (its last step by 'Below', as in the shells over slices).
-/
import Derived.Test.Qxb6600035aRows
import Derived.WalkKit
import Derived.ProofKit
import Derived.OpenShut
import Derived.ShutString
import Derived.ChangeOld
import Derived.Below
import Derived.Test.Qxb6600035aIsCode
namespace Go.Proofs.Qxb6600035a.fnIsCodeMatchesByteModel
open Go.ChangeShapes Go.WideShapes Go.ChangeAt Go.RowKit
open Go.ChangeMaps (open_string shut_string)
set_option linter.unusedVariables false

theorem own : ownKnob Try.prog.godebug = none := by kernel_rfl

/-! ### The walk -/
set_option maxHeartbeats 400000 in
theorem bytes_any (s : ByteArray) (w : World) (hs : s.size ≤ maxLen) :
    Calls Try.prog 18 #[.string s] w fun e w' => e = .returned (.bool (decide (s.size ≤ 1048576))) ∧ w' = w := by
  unfold maxLen at hs
  by_cases h : s.size ≤ 1048576
  · have h1 : ¬ 1048576 < (s.size : Int) := by omega
    go_enter Try.func18, Try.ntmps18
    go_wp2
    go_ret
    exact ⟨by simp, rfl⟩
  · have h1 : 1048576 < (s.size : Int) := by omega
    go_enter Try.func18, Try.ntmps18
    go_wp2
    go_ret
    exact ⟨by simp [h], rfl⟩

set_option maxHeartbeats 400000 in
theorem walk (a0 : ByteArray) (w0 : a0.size ≤ maxLen) (w : World) :
    Calls Try.prog 6 #[.string a0] w fun e w' => e = .returned (.bool true) ∧ Below w.heap.size w w' := by
  have hb := fun w => bytes_any a0 w w0
  unfold maxLen at w0
  by_cases h : a0.size ≤ 1048576
  · have hd : decide (a0.size ≤ 1048576) = true := by simp [h]
    rw [hd] at hb
    clear hd
    have h1 : ¬ 1048576 < (a0.size : Int) := by omega
    have HB : Hid (∀ w, Calls Try.prog 18 #[.string a0] w fun e w' => e = .returned (.bool true) ∧ w' = w) := hb
    clear hb
    go_enter Try.func6, Try.ntmps6
    go_wp2_with (go_at_call 18; refine (HB.out _).mono ?_; rintro e w' ⟨rfl, rfl⟩)
    go_loop [3, 4] (fun want i => ∃ (k : Nat) (b : Bool), k ≤ a0.size ∧ i = .int .i64 k ∧ want = .bool b ∧ (b = true → a0.size = 6 ∧ ∀ j (hj : j < a0.size), j < k → digB a0[j] = true) ∧ (b = false → codeB a0 = false)) (fun _ i => a0.size - (intOf i).toNat)
    case atStart =>
      refine ⟨0, ((a0.size : Int) == 6), Nat.zero_le _, rfl, rfl, fun h => ⟨by have : (a0.size : Int) = 6 := (by simpa using h); omega, fun j hj hk => absurd hk (by omega)⟩, fun h => codeB_size ?_⟩
      have : ¬ (a0.size : Int) = 6 := by simpa using h
      omega
    case round =>
      obtain ⟨k, b, hk, rfl, rfl, ht, hf⟩ := hrel
      have HT : Hid (b = true → a0.size = 6 ∧ ∀ j (hj : j < a0.size), j < k → digB a0[j] = true) := ht
      have HF : Hid (b = false → codeB a0 = false) := hf
      clear ht hf
      cases b with
      | false =>
        have HC : Hid (codeB a0 = false) := HF.out rfl
        go_wp2_with (go_at_call 19; refine (zzIsCode_any _ _).mono ?_; rintro e w' ⟨rfl, hb⟩)
        go_ret
        exact ⟨by rw [HC.out]; rfl, hb⟩
      | true =>
        by_cases hlt : k < a0.size
        · have hlt' : (k : Int) < (a0.size : Int) := by omega
          by_cases hdg : digB a0[k] = true
          · have h2 : 48 ≤ a0[k].toNat ∧ a0[k].toNat ≤ 57 := by simpa [digB] using hdg
            have HG : Hid (digB a0[k] = true) := hdg
            have h3 : ¬ (a0[k].toNat : Int) < 48 := by omega
            have h4 : ¬ 57 < (a0[k].toNat : Int) := by omega
            clear hdg h2
            go_wp2
            go_round
            case rel =>
              refine ⟨k + 1, true, by omega, by go_num, rfl, fun _ => ⟨(HT.out rfl).1, fun j hj hk1 => ?_⟩, fun h => by cases h⟩
              by_cases e : j = k
              · subst e; exact HG.out
              · exact (HT.out rfl).2 j hj (by omega)
            case measure => simp [intOf]; omega
          · have hno : digB a0[k] = false := by simpa using hdg
            have HC : Hid (codeB a0 = false) := codeB_no hlt hno
            have h2 : ¬ (48 ≤ a0[k].toNat ∧ a0[k].toNat ≤ 57) := by simpa [digB] using hno
            clear hdg hno
            by_cases h3 : (a0[k].toNat : Int) < 48
            · clear h2
              go_wp2
              go_round
              case rel => exact ⟨k + 1, false, by omega, by go_num, rfl, fun h => (by cases h), fun _ => HC.out⟩
              case measure => simp [intOf]; omega
            · have h4 : 57 < (a0[k].toNat : Int) := by omega
              clear h2
              go_wp2
              go_round
              case rel => exact ⟨k + 1, false, by omega, by go_num, rfl, fun h => (by cases h), fun _ => HC.out⟩
              case measure => simp [intOf]; omega
        · have HC : Hid (codeB a0 = true) := codeB_yes (HT.out rfl).1 (fun j hj => (HT.out rfl).2 j hj (by omega))
          go_wp2_with (go_at_call 19; refine (zzIsCode_any _ _).mono ?_; rintro e w' ⟨rfl, hb⟩)
          go_ret
          exact ⟨by rw [HC.out]; rfl, hb⟩
  · have hd : decide (a0.size ≤ 1048576) = false := by simp [h]
    rw [hd] at hb
    clear hd
    have HB : Hid (∀ w, Calls Try.prog 18 #[.string a0] w fun e w' => e = .returned (.bool false) ∧ w' = w) := hb
    clear hb
    go_enter Try.func6, Try.ntmps6
    go_wp2_with (go_at_call 18; refine (HB.out _).mono ?_; rintro e w' ⟨rfl, rfl⟩)
    go_ret
    exact ⟨rfl, Below.refl _ _⟩

/-! ### The row's step: the shell's -/
set_option maxRecDepth 100000 in
theorem lifted (os : Os) (started : os.Started) (H : Type) (enc : TypeId × Value → H) :
    ReturnsInHanded {} Try.checked os 6 .any (Rows.fnIsCodeMatchesByteModelSpec.pre6 enc Try.prog Try.f6 Rows.fnIsCodeMatchesByteModelRow.domain false) (Rows.fnIsCodeMatchesByteModelSpec.post enc Try.prog Try.f6 false true false false) := by
  refine returnsInHanded_of_change (C := Try.checked) own started (by kernel_rfl) Try.func6
    (ChangeSpec.witness6 (enc := enc) (C := Try.checked) false ⟨#[], #[.string ByteArray.empty], []⟩ 8 (by kernel_rfl) (by kernel_rfl) (by kernel_rfl) (by kernel_rfl)) ?_
  intro W base args ds gs before hval0 hW hcnd _
  have hval : ∀ (j : Nat) t v, Try.f6.params[j]? = some t → args[j]? = some v → Value.okWide Try.prog W .any base t v := hval0
  have hW' := hW
  obtain ⟨p, q, hA0, hV, rfl, hfz, hnd⟩ := hW
  have hA : DataW.TrodAll enc Try.prog W 0 (fun _ => true) true Try.f6.params.toList args.toList ds p := hA0
  rw [Try.params6] at hA hval
  obtain ⟨v0, vs0, d0, ds0, p0, q0, hargs, rfl, rfl, h0, r0⟩ := trodAll_cons hA
  obtain ⟨rfl, rfl, rfl⟩ := trodAll_nil r0
  obtain rfl : args = #[v0] := by cases args; simp_all
  obtain ⟨rfl, rfl⟩ := trodVars_none hV
  obtain ⟨a0, rfl, rfl, rfl, w0⟩ := open_string Try.underlying9 (hval 0 9 v0 rfl rfl) h0
  clear hA0 hval0
  refine (walk a0 w0 W).mono fun e W' ⟨he, bel⟩ => ?_
  subst he
  exact ⟨_, rfl, _, _, _, [], _, [], hW', trodAll_mk1 (shut_bool Try.underlying4 _), (trodAll_cons_mk (shut_string Try.underlying9 w0) trodAll_mk0), rfl, bel.frame _, fun h => by cases h⟩

theorem over : Rows.fnIsCodeMatchesByteModelRow.holds Try.pinned (OpenSpec.ofChange Rows.fnIsCodeMatchesByteModelSpec) :=
  OpenClaim.holds_of_wide 6 Try.f6 rfl rfl rfl rfl rfl rfl rfl ⟨rfl, rfl, rfl, rfl, rfl⟩ rfl rfl rfl rfl rfl (by kernel_rfl) Try.func6 (by kernel_rfl)
    (of_decide_eq_true (by kernel_rfl)) (by unfold Func.isWrapper; first | (rw [if_pos (by decide +kernel)]; kernel_rfl) | (rw [if_neg (by decide +kernel)]; exact ⟨rfl, rfl⟩))
    (fun os started H enc _ => lifted os started H enc)

/-- THE STATEMENT -/
theorem proved : Rows.FnIsCodeMatchesByteModelSaid :=
  over
#print axioms proved
end Go.Proofs.Qxb6600035a.fnIsCodeMatchesByteModel
