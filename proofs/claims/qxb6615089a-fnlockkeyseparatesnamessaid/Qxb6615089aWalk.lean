/-
  The walk of FnLockKeySeparatesNames.
-/
import Derived.Test.Qxb6615089aParts
import Derived.RowKit3
import Derived.Deep.RegionWith
namespace Go.Proofs.Qxb6615089a.Walk
open Go.RowKit
set_option linter.unusedVariables false
set_option maxRecDepth 100000

set_option maxHeartbeats 4000000 in
theorem main_road (a0 : ByteArray) (a1 : ByteArray) (a2 : ByteArray) (a3 : ByteArray) (w0 : a0.size ≤ 9223372036854775807) (w1 : a1.size ≤ 9223372036854775807) (w2 : a2.size ≤ 9223372036854775807) (w3 : a3.size ≤ 9223372036854775807) (w : World)
    (hd : decide (a0.size + a1.size + a2.size + a3.size ≤ 1048576) = true) (l0 : a0.size ≤ 262144) (l1 : a1.size ≤ 262144) (l2 : a2.size ≤ 262144) (l3 : a3.size ≤ 262144) (c0 : Parts.col a0 = false) (c2 : Parts.col a2 = false)
    (k1 : a0.toList.isEmpty = true → Parts.col a1 = false) (k3 : a2.toList.isEmpty = true → Parts.col a3 = false) :
    Calls Try.prog 3 #[.string a0, .string a1, .string a2, .string a3] w fun e w' => e = .returned (.bool true) ∧ Grown w w' := by
  have KE := Parts.key_eq a0 a1 a2 a3 c0 c2 k1 k3
  obtain ⟨z1, z1'⟩ := Parts.keyB_size a0 a1
  obtain ⟨z2, z2'⟩ := Parts.keyB_size a2 a3
  have S1 : Hid ((((Parts.keyB a0 a1).extract ((Parts.keyB a0 a1).size - a1.size) (Parts.keyB a0 a1).size).toList == a1.toList) = true) := Parts.keyB_suffix a0 a1
  have S2 : Hid ((((Parts.keyB a2 a3).extract ((Parts.keyB a2 a3).size - a3.size) (Parts.keyB a2 a3).size).toList == a3.toList) = true) := Parts.keyB_suffix a2 a3
  obtain ⟨q, hq⟩ : ∃ q, (a1.toList == a3.toList) = q := ⟨_, rfl⟩
  rw [hq] at KE
  cases e0 : a0.toList.isEmpty with
  | true =>
    have c1 := k1 e0
    clear k1
    cases e2 : a2.toList.isEmpty with
    | true =>
      have c3 := k3 e2
      clear k3
      cases p : (a0.toList == a2.toList) with
      | true =>
        rw [p, Bool.true_and] at KE
        go_enter Try.func3, Try.ntmps3
        go_wp2_with (first | (go_at_call 4; refine (Parts.zz4 _ _ _ _ _ w0 w1 w2 w3).mono ?_; rintro e w' ⟨rfl, rfl⟩) | (go_at_call 5; refine (Parts.hasColon5 _ _ (by omega)).mono ?_; rintro e w' ⟨rfl, rfl⟩) | (go_at_call 7; refine (Parts.key7 _ _ _ (by omega) (by omega)).mono ?_; rintro e w' ⟨rfl, rfl⟩) | (go_at_call_of 9 (Value.string (Parts.keyB a0 a1)); refine (Parts.suffix9 (Parts.keyB a0 a1) a1 _ (by omega) z1 S1.out).mono ?_; rintro e w' ⟨rfl, rfl⟩) | (go_at_call_of 9 (Value.string (Parts.keyB a2 a3)); refine (Parts.suffix9 (Parts.keyB a2 a3) a3 _ (by omega) z2 S2.out).mono ?_; rintro e w' ⟨rfl, rfl⟩) | go_in)
        go_ret
        exact ⟨rfl, by repeat (first | exact Grown.refl _ | apply Grown.drew | apply Grown.alloc)⟩
      | false =>
        rw [p, Bool.false_and] at KE
        go_enter Try.func3, Try.ntmps3
        go_wp2_with (first | (go_at_call 4; refine (Parts.zz4 _ _ _ _ _ w0 w1 w2 w3).mono ?_; rintro e w' ⟨rfl, rfl⟩) | (go_at_call 5; refine (Parts.hasColon5 _ _ (by omega)).mono ?_; rintro e w' ⟨rfl, rfl⟩) | (go_at_call 7; refine (Parts.key7 _ _ _ (by omega) (by omega)).mono ?_; rintro e w' ⟨rfl, rfl⟩) | (go_at_call_of 9 (Value.string (Parts.keyB a0 a1)); refine (Parts.suffix9 (Parts.keyB a0 a1) a1 _ (by omega) z1 S1.out).mono ?_; rintro e w' ⟨rfl, rfl⟩) | (go_at_call_of 9 (Value.string (Parts.keyB a2 a3)); refine (Parts.suffix9 (Parts.keyB a2 a3) a3 _ (by omega) z2 S2.out).mono ?_; rintro e w' ⟨rfl, rfl⟩) | go_in)
        go_ret
        exact ⟨rfl, by repeat (first | exact Grown.refl _ | apply Grown.drew | apply Grown.alloc)⟩
    | false =>
      clear k3
      cases p : (a0.toList == a2.toList) with
      | true =>
        rw [p, Bool.true_and] at KE
        go_enter Try.func3, Try.ntmps3
        go_wp2_with (first | (go_at_call 4; refine (Parts.zz4 _ _ _ _ _ w0 w1 w2 w3).mono ?_; rintro e w' ⟨rfl, rfl⟩) | (go_at_call 5; refine (Parts.hasColon5 _ _ (by omega)).mono ?_; rintro e w' ⟨rfl, rfl⟩) | (go_at_call 7; refine (Parts.key7 _ _ _ (by omega) (by omega)).mono ?_; rintro e w' ⟨rfl, rfl⟩) | (go_at_call_of 9 (Value.string (Parts.keyB a0 a1)); refine (Parts.suffix9 (Parts.keyB a0 a1) a1 _ (by omega) z1 S1.out).mono ?_; rintro e w' ⟨rfl, rfl⟩) | (go_at_call_of 9 (Value.string (Parts.keyB a2 a3)); refine (Parts.suffix9 (Parts.keyB a2 a3) a3 _ (by omega) z2 S2.out).mono ?_; rintro e w' ⟨rfl, rfl⟩) | go_in)
        go_ret
        exact ⟨rfl, by repeat (first | exact Grown.refl _ | apply Grown.drew | apply Grown.alloc)⟩
      | false =>
        rw [p, Bool.false_and] at KE
        go_enter Try.func3, Try.ntmps3
        go_wp2_with (first | (go_at_call 4; refine (Parts.zz4 _ _ _ _ _ w0 w1 w2 w3).mono ?_; rintro e w' ⟨rfl, rfl⟩) | (go_at_call 5; refine (Parts.hasColon5 _ _ (by omega)).mono ?_; rintro e w' ⟨rfl, rfl⟩) | (go_at_call 7; refine (Parts.key7 _ _ _ (by omega) (by omega)).mono ?_; rintro e w' ⟨rfl, rfl⟩) | (go_at_call_of 9 (Value.string (Parts.keyB a0 a1)); refine (Parts.suffix9 (Parts.keyB a0 a1) a1 _ (by omega) z1 S1.out).mono ?_; rintro e w' ⟨rfl, rfl⟩) | (go_at_call_of 9 (Value.string (Parts.keyB a2 a3)); refine (Parts.suffix9 (Parts.keyB a2 a3) a3 _ (by omega) z2 S2.out).mono ?_; rintro e w' ⟨rfl, rfl⟩) | go_in)
        go_ret
        exact ⟨rfl, by repeat (first | exact Grown.refl _ | apply Grown.drew | apply Grown.alloc)⟩
  | false =>
    clear k1
    cases e2 : a2.toList.isEmpty with
    | true =>
      have c3 := k3 e2
      clear k3
      cases p : (a0.toList == a2.toList) with
      | true =>
        rw [p, Bool.true_and] at KE
        go_enter Try.func3, Try.ntmps3
        go_wp2_with (first | (go_at_call 4; refine (Parts.zz4 _ _ _ _ _ w0 w1 w2 w3).mono ?_; rintro e w' ⟨rfl, rfl⟩) | (go_at_call 5; refine (Parts.hasColon5 _ _ (by omega)).mono ?_; rintro e w' ⟨rfl, rfl⟩) | (go_at_call 7; refine (Parts.key7 _ _ _ (by omega) (by omega)).mono ?_; rintro e w' ⟨rfl, rfl⟩) | (go_at_call_of 9 (Value.string (Parts.keyB a0 a1)); refine (Parts.suffix9 (Parts.keyB a0 a1) a1 _ (by omega) z1 S1.out).mono ?_; rintro e w' ⟨rfl, rfl⟩) | (go_at_call_of 9 (Value.string (Parts.keyB a2 a3)); refine (Parts.suffix9 (Parts.keyB a2 a3) a3 _ (by omega) z2 S2.out).mono ?_; rintro e w' ⟨rfl, rfl⟩) | go_in)
        go_ret
        exact ⟨rfl, by repeat (first | exact Grown.refl _ | apply Grown.drew | apply Grown.alloc)⟩
      | false =>
        rw [p, Bool.false_and] at KE
        go_enter Try.func3, Try.ntmps3
        go_wp2_with (first | (go_at_call 4; refine (Parts.zz4 _ _ _ _ _ w0 w1 w2 w3).mono ?_; rintro e w' ⟨rfl, rfl⟩) | (go_at_call 5; refine (Parts.hasColon5 _ _ (by omega)).mono ?_; rintro e w' ⟨rfl, rfl⟩) | (go_at_call 7; refine (Parts.key7 _ _ _ (by omega) (by omega)).mono ?_; rintro e w' ⟨rfl, rfl⟩) | (go_at_call_of 9 (Value.string (Parts.keyB a0 a1)); refine (Parts.suffix9 (Parts.keyB a0 a1) a1 _ (by omega) z1 S1.out).mono ?_; rintro e w' ⟨rfl, rfl⟩) | (go_at_call_of 9 (Value.string (Parts.keyB a2 a3)); refine (Parts.suffix9 (Parts.keyB a2 a3) a3 _ (by omega) z2 S2.out).mono ?_; rintro e w' ⟨rfl, rfl⟩) | go_in)
        go_ret
        exact ⟨rfl, by repeat (first | exact Grown.refl _ | apply Grown.drew | apply Grown.alloc)⟩
    | false =>
      clear k3
      cases p : (a0.toList == a2.toList) with
      | true =>
        rw [p, Bool.true_and] at KE
        go_enter Try.func3, Try.ntmps3
        go_wp2_with (first | (go_at_call 4; refine (Parts.zz4 _ _ _ _ _ w0 w1 w2 w3).mono ?_; rintro e w' ⟨rfl, rfl⟩) | (go_at_call 5; refine (Parts.hasColon5 _ _ (by omega)).mono ?_; rintro e w' ⟨rfl, rfl⟩) | (go_at_call 7; refine (Parts.key7 _ _ _ (by omega) (by omega)).mono ?_; rintro e w' ⟨rfl, rfl⟩) | (go_at_call_of 9 (Value.string (Parts.keyB a0 a1)); refine (Parts.suffix9 (Parts.keyB a0 a1) a1 _ (by omega) z1 S1.out).mono ?_; rintro e w' ⟨rfl, rfl⟩) | (go_at_call_of 9 (Value.string (Parts.keyB a2 a3)); refine (Parts.suffix9 (Parts.keyB a2 a3) a3 _ (by omega) z2 S2.out).mono ?_; rintro e w' ⟨rfl, rfl⟩) | go_in)
        go_ret
        exact ⟨rfl, by repeat (first | exact Grown.refl _ | apply Grown.drew | apply Grown.alloc)⟩
      | false =>
        rw [p, Bool.false_and] at KE
        go_enter Try.func3, Try.ntmps3
        go_wp2_with (first | (go_at_call 4; refine (Parts.zz4 _ _ _ _ _ w0 w1 w2 w3).mono ?_; rintro e w' ⟨rfl, rfl⟩) | (go_at_call 5; refine (Parts.hasColon5 _ _ (by omega)).mono ?_; rintro e w' ⟨rfl, rfl⟩) | (go_at_call 7; refine (Parts.key7 _ _ _ (by omega) (by omega)).mono ?_; rintro e w' ⟨rfl, rfl⟩) | (go_at_call_of 9 (Value.string (Parts.keyB a0 a1)); refine (Parts.suffix9 (Parts.keyB a0 a1) a1 _ (by omega) z1 S1.out).mono ?_; rintro e w' ⟨rfl, rfl⟩) | (go_at_call_of 9 (Value.string (Parts.keyB a2 a3)); refine (Parts.suffix9 (Parts.keyB a2 a3) a3 _ (by omega) z2 S2.out).mono ?_; rintro e w' ⟨rfl, rfl⟩) | go_in)
        go_ret
        exact ⟨rfl, by repeat (first | exact Grown.refl _ | apply Grown.drew | apply Grown.alloc)⟩

set_option maxHeartbeats 2000000 in
theorem walk (a0 : ByteArray) (a1 : ByteArray) (a2 : ByteArray) (a3 : ByteArray) (w0 : a0.size ≤ 9223372036854775807) (w1 : a1.size ≤ 9223372036854775807) (w2 : a2.size ≤ 9223372036854775807) (w3 : a3.size ≤ 9223372036854775807) (w : World) :
    Calls Try.prog 3 #[.string a0, .string a1, .string a2, .string a3] w fun e w' => e = .returned (.bool true) ∧ Grown w w' := by
  by_cases hs : a0.size + a1.size + a2.size + a3.size ≤ 1048576
  case neg =>
    have hd : decide (a0.size + a1.size + a2.size + a3.size ≤ 1048576) = false := by simpa using hs
    go_enter Try.func3, Try.ntmps3
    go_wp2_with (go_at_call 4; refine (Parts.zz4 _ _ _ _ _ w0 w1 w2 w3).mono ?_; rintro e w' ⟨rfl, rfl⟩)
    go_ret
    exact ⟨rfl, Grown.refl _⟩
  have hd : decide (a0.size + a1.size + a2.size + a3.size ≤ 1048576) = true := by simpa using hs
  by_cases hl : a0.size ≤ 262144 ∧ a1.size ≤ 262144 ∧ a2.size ≤ 262144 ∧ a3.size ≤ 262144
  case neg =>
    go_enter Try.func3, Try.ntmps3
    go_wp2_with (first | (go_at_call 4; refine (Parts.zz4 _ _ _ _ _ w0 w1 w2 w3).mono ?_; rintro e w' ⟨rfl, rfl⟩))
    all_goals go_ret
    all_goals exact ⟨rfl, Grown.refl _⟩
  obtain ⟨l0, l1, l2, l3⟩ := hl
  cases c0 : Parts.col a0 with
  | true =>
    go_enter Try.func3, Try.ntmps3
    go_wp2_with (first | (go_at_call 4; refine (Parts.zz4 _ _ _ _ _ w0 w1 w2 w3).mono ?_; rintro e w' ⟨rfl, rfl⟩) | (go_at_call 5; refine (Parts.hasColon5 _ _ (by omega)).mono ?_; rintro e w' ⟨rfl, rfl⟩))
    go_ret
    exact ⟨rfl, Grown.refl _⟩
  | false =>
  cases c2 : Parts.col a2 with
  | true =>
    go_enter Try.func3, Try.ntmps3
    go_wp2_with (first | (go_at_call 4; refine (Parts.zz4 _ _ _ _ _ w0 w1 w2 w3).mono ?_; rintro e w' ⟨rfl, rfl⟩) | (go_at_call 5; refine (Parts.hasColon5 _ _ (by omega)).mono ?_; rintro e w' ⟨rfl, rfl⟩))
    go_ret
    exact ⟨rfl, Grown.refl _⟩
  | false =>
  by_cases h1 : a0.toList.isEmpty = true ∧ Parts.col a1 = true
  · obtain ⟨e0, c1⟩ := h1
    go_enter Try.func3, Try.ntmps3
    go_wp2_with (first | (go_at_call 4; refine (Parts.zz4 _ _ _ _ _ w0 w1 w2 w3).mono ?_; rintro e w' ⟨rfl, rfl⟩) | (go_at_call 5; refine (Parts.hasColon5 _ _ (by omega)).mono ?_; rintro e w' ⟨rfl, rfl⟩))
    go_ret
    exact ⟨rfl, Grown.refl _⟩
  have k1 : a0.toList.isEmpty = true → Parts.col a1 = false := fun h => by
    cases c : Parts.col a1 with
    | true => exact absurd ⟨h, c⟩ h1
    | false => rfl
  clear h1
  by_cases h3 : a2.toList.isEmpty = true ∧ Parts.col a3 = true
  · obtain ⟨e2, c3⟩ := h3
    cases e0 : a0.toList.isEmpty with
    | true =>
      have c1 := k1 e0
      clear k1
      go_enter Try.func3, Try.ntmps3
      go_wp2_with (first | (go_at_call 4; refine (Parts.zz4 _ _ _ _ _ w0 w1 w2 w3).mono ?_; rintro e w' ⟨rfl, rfl⟩) | (go_at_call 5; refine (Parts.hasColon5 _ _ (by omega)).mono ?_; rintro e w' ⟨rfl, rfl⟩))
      go_ret
      exact ⟨rfl, Grown.refl _⟩
    | false =>
      clear k1
      go_enter Try.func3, Try.ntmps3
      go_wp2_with (first | (go_at_call 4; refine (Parts.zz4 _ _ _ _ _ w0 w1 w2 w3).mono ?_; rintro e w' ⟨rfl, rfl⟩) | (go_at_call 5; refine (Parts.hasColon5 _ _ (by omega)).mono ?_; rintro e w' ⟨rfl, rfl⟩))
      go_ret
      exact ⟨rfl, Grown.refl _⟩
  have k3 : a2.toList.isEmpty = true → Parts.col a3 = false := fun h => by
    cases c : Parts.col a3 with
    | true => exact absurd ⟨h, c⟩ h3
    | false => rfl
  clear h3
  exact main_road a0 a1 a2 a3 w0 w1 w2 w3 w hd l0 l1 l2 l3 c0 c2 k1 k3

end Go.Proofs.Qxb6615089a.Walk
