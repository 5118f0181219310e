/-
  The walks of numberStep, numberAccepts.
-/
import Derived.Test.Qxb6000362aModsNum
namespace Go.Proofs.Qxb6000362aMods
open Go.RowKit
set_option linter.unusedSimpArgs false
set_option linter.unusedVariables false

/-- The automaton's step as Go's int: -1 is no step. -/
def stepI (s : Nat) (c : Int) : Int := match stepF s c with | some t => (t : Int) | none => -1

theorem cls (c : Int) : c = 45 ∨ c = 48 ∨ c = 46 ∨ c = 101 ∨ c = 69 ∨ c = 43 ∨ (49 ≤ c ∧ c ≤ 57) ∨ (c < 48 ∧ c ≠ 45 ∧ c ≠ 46 ∧ c ≠ 43) ∨ (57 < c ∧ c ≠ 101 ∧ c ≠ 69) := by omega

structure Oth (c : Int) : Prop where
  b45 : (c == 45) = false
  b48 : (c == 48) = false
  b46 : (c == 46) = false
  b101 : (c == 101) = false
  b69 : (c == 69) = false
  b43 : (c == 43) = false
theorem oth_mk {c : Int} (h : (49 ≤ c ∧ c ≤ 57) ∨ (c < 48 ∧ c ≠ 45 ∧ c ≠ 46 ∧ c ≠ 43) ∨ (57 < c ∧ c ≠ 101 ∧ c ≠ 69)) : Oth c := by
  constructor <;> simp <;> omega
theorem step_dig {c : Int} (s : Nat) (hs : s ≤ 8) (o : Oth c) (h : dg c = true) : stepI s c = match s with | 0 => 3 | 1 => 3 | 2 => -1 | 3 => 3 | 4 => 5 | 5 => 5 | 6 => 8 | 7 => 8 | 8 => 8 | _ => -1 := by
  have e : isE c = false := by simp [isE, o.b101, o.b69]
  have f : isS c = false := by simp [isS, o.b43, o.b45]
  obtain rfl | rfl | rfl | rfl | rfl | rfl | rfl | rfl | rfl : s = 0 ∨ s = 1 ∨ s = 2 ∨ s = 3 ∨ s = 4 ∨ s = 5 ∨ s = 6 ∨ s = 7 ∨ s = 8 := by omega
  all_goals (unfold stepI; simp [stepF, o.b45, o.b48, o.b46, e, f, h])
theorem step_oth {c : Int} (s : Nat) (hs : s ≤ 8) (o : Oth c) (h : dg c = false) : stepI s c = -1 := by
  have e : isE c = false := by simp [isE, o.b101, o.b69]
  have f : isS c = false := by simp [isS, o.b43, o.b45]
  obtain rfl | rfl | rfl | rfl | rfl | rfl | rfl | rfl | rfl : s = 0 ∨ s = 1 ∨ s = 2 ∨ s = 3 ∨ s = 4 ∨ s = 5 ∨ s = 6 ∨ s = 7 ∨ s = 8 := by omega
  all_goals (unfold stepI; simp [stepF, o.b45, o.b48, o.b46, e, f, h])

set_option maxHeartbeats 1000000 in
theorem step_call0 (c : Int) (w : World) : Calls Trym.prog 23 #[.int .i64 0, .int .u8 c] w fun e w' => e = .returned (.int .i64 (stepI 0 c)) ∧ w = w' := by
  rcases cls c with rfl | rfl | rfl | rfl | rfl | rfl | h | h | h
  iterate 6 (first | done | (focus (go_enter Trym.func23, Trym.ntmps23; go_wp2; go_ret; exact ⟨rfl, rfl⟩)))
  · have o := oth_mk (.inl h)
    have HE := hide (step_dig 0 (by omega) o (by simp [dg]; omega))
    obtain ⟨b45, b48, b46, b101, b69, b43⟩ := o
    have h1 : 48 ≤ c := by omega
    have h2 : c ≤ 57 := by omega
    clear h
    go_enter Trym.func23, Trym.ntmps23
    go_wp2
    go_ret
    exact ⟨by rw [HE.out]; rfl, rfl⟩
  · have o := oth_mk (.inr (.inl h))
    have HE := hide (step_oth 0 (by omega) o (by simp [dg]; omega))
    obtain ⟨b45, b48, b46, b101, b69, b43⟩ := o
    have h1 : decide (48 ≤ c) = false := by simp; omega
    clear h
    go_enter Trym.func23, Trym.ntmps23
    go_wp2
    go_ret
    exact ⟨by rw [HE.out]; rfl, rfl⟩
  · have o := oth_mk (.inr (.inr h))
    have HE := hide (step_oth 0 (by omega) o (by simp [dg]; omega))
    obtain ⟨b45, b48, b46, b101, b69, b43⟩ := o
    have h1 : 48 ≤ c := by omega
    have h2 : decide (c ≤ 57) = false := by simp; omega
    clear h
    go_enter Trym.func23, Trym.ntmps23
    go_wp2
    go_ret
    exact ⟨by rw [HE.out]; rfl, rfl⟩

set_option maxHeartbeats 1000000 in
theorem step_call1 (c : Int) (w : World) : Calls Trym.prog 23 #[.int .i64 1, .int .u8 c] w fun e w' => e = .returned (.int .i64 (stepI 1 c)) ∧ w = w' := by
  rcases cls c with rfl | rfl | rfl | rfl | rfl | rfl | h | h | h
  iterate 6 (first | done | (focus (go_enter Trym.func23, Trym.ntmps23; go_wp2; go_ret; exact ⟨rfl, rfl⟩)))
  · have o := oth_mk (.inl h)
    have HE := hide (step_dig 1 (by omega) o (by simp [dg]; omega))
    obtain ⟨b45, b48, b46, b101, b69, b43⟩ := o
    have h1 : 48 ≤ c := by omega
    have h2 : c ≤ 57 := by omega
    clear h
    go_enter Trym.func23, Trym.ntmps23
    go_wp2
    go_ret
    exact ⟨by rw [HE.out]; rfl, rfl⟩
  · have o := oth_mk (.inr (.inl h))
    have HE := hide (step_oth 1 (by omega) o (by simp [dg]; omega))
    obtain ⟨b45, b48, b46, b101, b69, b43⟩ := o
    have h1 : decide (48 ≤ c) = false := by simp; omega
    clear h
    go_enter Trym.func23, Trym.ntmps23
    go_wp2
    go_ret
    exact ⟨by rw [HE.out]; rfl, rfl⟩
  · have o := oth_mk (.inr (.inr h))
    have HE := hide (step_oth 1 (by omega) o (by simp [dg]; omega))
    obtain ⟨b45, b48, b46, b101, b69, b43⟩ := o
    have h1 : 48 ≤ c := by omega
    have h2 : decide (c ≤ 57) = false := by simp; omega
    clear h
    go_enter Trym.func23, Trym.ntmps23
    go_wp2
    go_ret
    exact ⟨by rw [HE.out]; rfl, rfl⟩

set_option maxHeartbeats 1000000 in
theorem step_call2 (c : Int) (w : World) : Calls Trym.prog 23 #[.int .i64 2, .int .u8 c] w fun e w' => e = .returned (.int .i64 (stepI 2 c)) ∧ w = w' := by
  rcases cls c with rfl | rfl | rfl | rfl | rfl | rfl | h | h | h
  iterate 6 (first | done | (focus (go_enter Trym.func23, Trym.ntmps23; go_wp2; go_ret; exact ⟨rfl, rfl⟩)))
  · have o := oth_mk (.inl h)
    have HE := hide (step_dig 2 (by omega) o (by simp [dg]; omega))
    obtain ⟨b45, b48, b46, b101, b69, b43⟩ := o
    have h1 : 48 ≤ c := by omega
    have h2 : c ≤ 57 := by omega
    clear h
    go_enter Trym.func23, Trym.ntmps23
    go_wp2
    go_ret
    exact ⟨by rw [HE.out]; rfl, rfl⟩
  · have o := oth_mk (.inr (.inl h))
    have HE := hide (step_oth 2 (by omega) o (by simp [dg]; omega))
    obtain ⟨b45, b48, b46, b101, b69, b43⟩ := o
    have h1 : decide (48 ≤ c) = false := by simp; omega
    clear h
    go_enter Trym.func23, Trym.ntmps23
    go_wp2
    go_ret
    exact ⟨by rw [HE.out]; rfl, rfl⟩
  · have o := oth_mk (.inr (.inr h))
    have HE := hide (step_oth 2 (by omega) o (by simp [dg]; omega))
    obtain ⟨b45, b48, b46, b101, b69, b43⟩ := o
    have h1 : 48 ≤ c := by omega
    have h2 : decide (c ≤ 57) = false := by simp; omega
    clear h
    go_enter Trym.func23, Trym.ntmps23
    go_wp2
    go_ret
    exact ⟨by rw [HE.out]; rfl, rfl⟩

set_option maxHeartbeats 1000000 in
theorem step_call3 (c : Int) (w : World) : Calls Trym.prog 23 #[.int .i64 3, .int .u8 c] w fun e w' => e = .returned (.int .i64 (stepI 3 c)) ∧ w = w' := by
  rcases cls c with rfl | rfl | rfl | rfl | rfl | rfl | h | h | h
  iterate 6 (first | done | (focus (go_enter Trym.func23, Trym.ntmps23; go_wp2; go_ret; exact ⟨rfl, rfl⟩)))
  · have o := oth_mk (.inl h)
    have HE := hide (step_dig 3 (by omega) o (by simp [dg]; omega))
    obtain ⟨b45, b48, b46, b101, b69, b43⟩ := o
    have h1 : 48 ≤ c := by omega
    have h2 : c ≤ 57 := by omega
    clear h
    go_enter Trym.func23, Trym.ntmps23
    go_wp2
    go_ret
    exact ⟨by rw [HE.out]; rfl, rfl⟩
  · have o := oth_mk (.inr (.inl h))
    have HE := hide (step_oth 3 (by omega) o (by simp [dg]; omega))
    obtain ⟨b45, b48, b46, b101, b69, b43⟩ := o
    have h1 : decide (48 ≤ c) = false := by simp; omega
    clear h
    go_enter Trym.func23, Trym.ntmps23
    go_wp2
    go_ret
    exact ⟨by rw [HE.out]; rfl, rfl⟩
  · have o := oth_mk (.inr (.inr h))
    have HE := hide (step_oth 3 (by omega) o (by simp [dg]; omega))
    obtain ⟨b45, b48, b46, b101, b69, b43⟩ := o
    have h1 : 48 ≤ c := by omega
    have h2 : decide (c ≤ 57) = false := by simp; omega
    clear h
    go_enter Trym.func23, Trym.ntmps23
    go_wp2
    go_ret
    exact ⟨by rw [HE.out]; rfl, rfl⟩

set_option maxHeartbeats 1000000 in
theorem step_call4 (c : Int) (w : World) : Calls Trym.prog 23 #[.int .i64 4, .int .u8 c] w fun e w' => e = .returned (.int .i64 (stepI 4 c)) ∧ w = w' := by
  rcases cls c with rfl | rfl | rfl | rfl | rfl | rfl | h | h | h
  iterate 6 (first | done | (focus (go_enter Trym.func23, Trym.ntmps23; go_wp2; go_ret; exact ⟨rfl, rfl⟩)))
  · have o := oth_mk (.inl h)
    have HE := hide (step_dig 4 (by omega) o (by simp [dg]; omega))
    obtain ⟨b45, b48, b46, b101, b69, b43⟩ := o
    have h1 : 48 ≤ c := by omega
    have h2 : c ≤ 57 := by omega
    clear h
    go_enter Trym.func23, Trym.ntmps23
    go_wp2
    go_ret
    exact ⟨by rw [HE.out]; rfl, rfl⟩
  · have o := oth_mk (.inr (.inl h))
    have HE := hide (step_oth 4 (by omega) o (by simp [dg]; omega))
    obtain ⟨b45, b48, b46, b101, b69, b43⟩ := o
    have h1 : decide (48 ≤ c) = false := by simp; omega
    clear h
    go_enter Trym.func23, Trym.ntmps23
    go_wp2
    go_ret
    exact ⟨by rw [HE.out]; rfl, rfl⟩
  · have o := oth_mk (.inr (.inr h))
    have HE := hide (step_oth 4 (by omega) o (by simp [dg]; omega))
    obtain ⟨b45, b48, b46, b101, b69, b43⟩ := o
    have h1 : 48 ≤ c := by omega
    have h2 : decide (c ≤ 57) = false := by simp; omega
    clear h
    go_enter Trym.func23, Trym.ntmps23
    go_wp2
    go_ret
    exact ⟨by rw [HE.out]; rfl, rfl⟩

set_option maxHeartbeats 1000000 in
theorem step_call5 (c : Int) (w : World) : Calls Trym.prog 23 #[.int .i64 5, .int .u8 c] w fun e w' => e = .returned (.int .i64 (stepI 5 c)) ∧ w = w' := by
  rcases cls c with rfl | rfl | rfl | rfl | rfl | rfl | h | h | h
  iterate 6 (first | done | (focus (go_enter Trym.func23, Trym.ntmps23; go_wp2; go_ret; exact ⟨rfl, rfl⟩)))
  · have o := oth_mk (.inl h)
    have HE := hide (step_dig 5 (by omega) o (by simp [dg]; omega))
    obtain ⟨b45, b48, b46, b101, b69, b43⟩ := o
    have h1 : 48 ≤ c := by omega
    have h2 : c ≤ 57 := by omega
    clear h
    go_enter Trym.func23, Trym.ntmps23
    go_wp2
    go_ret
    exact ⟨by rw [HE.out]; rfl, rfl⟩
  · have o := oth_mk (.inr (.inl h))
    have HE := hide (step_oth 5 (by omega) o (by simp [dg]; omega))
    obtain ⟨b45, b48, b46, b101, b69, b43⟩ := o
    have h1 : decide (48 ≤ c) = false := by simp; omega
    clear h
    go_enter Trym.func23, Trym.ntmps23
    go_wp2
    go_ret
    exact ⟨by rw [HE.out]; rfl, rfl⟩
  · have o := oth_mk (.inr (.inr h))
    have HE := hide (step_oth 5 (by omega) o (by simp [dg]; omega))
    obtain ⟨b45, b48, b46, b101, b69, b43⟩ := o
    have h1 : 48 ≤ c := by omega
    have h2 : decide (c ≤ 57) = false := by simp; omega
    clear h
    go_enter Trym.func23, Trym.ntmps23
    go_wp2
    go_ret
    exact ⟨by rw [HE.out]; rfl, rfl⟩

set_option maxHeartbeats 1000000 in
theorem step_call6 (c : Int) (w : World) : Calls Trym.prog 23 #[.int .i64 6, .int .u8 c] w fun e w' => e = .returned (.int .i64 (stepI 6 c)) ∧ w = w' := by
  rcases cls c with rfl | rfl | rfl | rfl | rfl | rfl | h | h | h
  iterate 6 (first | done | (focus (go_enter Trym.func23, Trym.ntmps23; go_wp2; go_ret; exact ⟨rfl, rfl⟩)))
  · have o := oth_mk (.inl h)
    have HE := hide (step_dig 6 (by omega) o (by simp [dg]; omega))
    obtain ⟨b45, b48, b46, b101, b69, b43⟩ := o
    have h1 : 48 ≤ c := by omega
    have h2 : c ≤ 57 := by omega
    clear h
    go_enter Trym.func23, Trym.ntmps23
    go_wp2
    go_ret
    exact ⟨by rw [HE.out]; rfl, rfl⟩
  · have o := oth_mk (.inr (.inl h))
    have HE := hide (step_oth 6 (by omega) o (by simp [dg]; omega))
    obtain ⟨b45, b48, b46, b101, b69, b43⟩ := o
    have h1 : decide (48 ≤ c) = false := by simp; omega
    clear h
    go_enter Trym.func23, Trym.ntmps23
    go_wp2
    go_ret
    exact ⟨by rw [HE.out]; rfl, rfl⟩
  · have o := oth_mk (.inr (.inr h))
    have HE := hide (step_oth 6 (by omega) o (by simp [dg]; omega))
    obtain ⟨b45, b48, b46, b101, b69, b43⟩ := o
    have h1 : 48 ≤ c := by omega
    have h2 : decide (c ≤ 57) = false := by simp; omega
    clear h
    go_enter Trym.func23, Trym.ntmps23
    go_wp2
    go_ret
    exact ⟨by rw [HE.out]; rfl, rfl⟩

set_option maxHeartbeats 1000000 in
theorem step_call7 (c : Int) (w : World) : Calls Trym.prog 23 #[.int .i64 7, .int .u8 c] w fun e w' => e = .returned (.int .i64 (stepI 7 c)) ∧ w = w' := by
  rcases cls c with rfl | rfl | rfl | rfl | rfl | rfl | h | h | h
  iterate 6 (first | done | (focus (go_enter Trym.func23, Trym.ntmps23; go_wp2; go_ret; exact ⟨rfl, rfl⟩)))
  · have o := oth_mk (.inl h)
    have HE := hide (step_dig 7 (by omega) o (by simp [dg]; omega))
    obtain ⟨b45, b48, b46, b101, b69, b43⟩ := o
    have h1 : 48 ≤ c := by omega
    have h2 : c ≤ 57 := by omega
    clear h
    go_enter Trym.func23, Trym.ntmps23
    go_wp2
    go_ret
    exact ⟨by rw [HE.out]; rfl, rfl⟩
  · have o := oth_mk (.inr (.inl h))
    have HE := hide (step_oth 7 (by omega) o (by simp [dg]; omega))
    obtain ⟨b45, b48, b46, b101, b69, b43⟩ := o
    have h1 : decide (48 ≤ c) = false := by simp; omega
    clear h
    go_enter Trym.func23, Trym.ntmps23
    go_wp2
    go_ret
    exact ⟨by rw [HE.out]; rfl, rfl⟩
  · have o := oth_mk (.inr (.inr h))
    have HE := hide (step_oth 7 (by omega) o (by simp [dg]; omega))
    obtain ⟨b45, b48, b46, b101, b69, b43⟩ := o
    have h1 : 48 ≤ c := by omega
    have h2 : decide (c ≤ 57) = false := by simp; omega
    clear h
    go_enter Trym.func23, Trym.ntmps23
    go_wp2
    go_ret
    exact ⟨by rw [HE.out]; rfl, rfl⟩

set_option maxHeartbeats 1000000 in
theorem step_call8 (c : Int) (w : World) : Calls Trym.prog 23 #[.int .i64 8, .int .u8 c] w fun e w' => e = .returned (.int .i64 (stepI 8 c)) ∧ w = w' := by
  rcases cls c with rfl | rfl | rfl | rfl | rfl | rfl | h | h | h
  iterate 6 (first | done | (focus (go_enter Trym.func23, Trym.ntmps23; go_wp2; go_ret; exact ⟨rfl, rfl⟩)))
  · have o := oth_mk (.inl h)
    have HE := hide (step_dig 8 (by omega) o (by simp [dg]; omega))
    obtain ⟨b45, b48, b46, b101, b69, b43⟩ := o
    have h1 : 48 ≤ c := by omega
    have h2 : c ≤ 57 := by omega
    clear h
    go_enter Trym.func23, Trym.ntmps23
    go_wp2
    go_ret
    exact ⟨by rw [HE.out]; rfl, rfl⟩
  · have o := oth_mk (.inr (.inl h))
    have HE := hide (step_oth 8 (by omega) o (by simp [dg]; omega))
    obtain ⟨b45, b48, b46, b101, b69, b43⟩ := o
    have h1 : decide (48 ≤ c) = false := by simp; omega
    clear h
    go_enter Trym.func23, Trym.ntmps23
    go_wp2
    go_ret
    exact ⟨by rw [HE.out]; rfl, rfl⟩
  · have o := oth_mk (.inr (.inr h))
    have HE := hide (step_oth 8 (by omega) o (by simp [dg]; omega))
    obtain ⟨b45, b48, b46, b101, b69, b43⟩ := o
    have h1 : 48 ≤ c := by omega
    have h2 : decide (c ≤ 57) = false := by simp; omega
    clear h
    go_enter Trym.func23, Trym.ntmps23
    go_wp2
    go_ret
    exact ⟨by rw [HE.out]; rfl, rfl⟩

theorem step_call (s : Nat) (hs : s ≤ 8) (c : Int) (w : World) : Calls Trym.prog 23 #[.int .i64 s, .int .u8 c] w fun e w' => e = .returned (.int .i64 (stepI s c)) ∧ w = w' := by
  obtain rfl | rfl | rfl | rfl | rfl | rfl | rfl | rfl | rfl : s = 0 ∨ s = 1 ∨ s = 2 ∨ s = 3 ∨ s = 4 ∨ s = 5 ∨ s = 6 ∨ s = 7 ∨ s = 8 := by omega
  · exact step_call0 c w
  · exact step_call1 c w
  · exact step_call2 c w
  · exact step_call3 c w
  · exact step_call4 c w
  · exact step_call5 c w
  · exact step_call6 c w
  · exact step_call7 c w
  · exact step_call8 c w

theorem accepts_call (s : Nat) (hs : s ≤ 8) (w : World) : Calls Trym.prog 24 #[.int .i64 s] w fun e w' => e = .returned (.bool (accF s)) ∧ w = w' := by
  obtain rfl | rfl | rfl | rfl | rfl | rfl | rfl | rfl | rfl : s = 0 ∨ s = 1 ∨ s = 2 ∨ s = 3 ∨ s = 4 ∨ s = 5 ∨ s = 6 ∨ s = 7 ∨ s = 8 := by omega
  all_goals
    go_enter Trym.func24, Trym.ntmps24
    go_wp2
    go_ret
    exact ⟨rfl, rfl⟩

end Go.Proofs.Qxb6000362aMods
