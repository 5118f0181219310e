/-
  The plain law of number: what the reader computes, and that it agrees with the automaton.
-/
import Derived.Test.Qxb6000362aModsBase
namespace Go.Proofs.Qxb6000362aMods
open Go.RowKit
set_option linter.unusedSimpArgs false
set_option linter.unusedVariables false

/-- Where the digits from i on end. -/
def digEnd (zs : List Int) (i : Nat) : Nat := i + ((zs.drop i).takeWhile dg).length

theorem dg_zero : dg 0 = false := by decide
theorem in_of_ne {zs : List Int} {i : Nat} (h : zs.getD i 0 ≠ 0) : i < zs.length := by
  by_cases hi : i < zs.length
  · exact hi
  · exact absurd (by simp [List.getD, show zs.length ≤ i by omega]) h
theorem in_of_dg {zs : List Int} {i : Nat} (h : dg (zs.getD i 0) = true) : i < zs.length :=
  in_of_ne (fun e => by rw [e, dg_zero] at h; cases h)
theorem digEnd_step {zs : List Int} {i : Nat} (h : dg (zs.getD i 0) = true) : digEnd zs i = digEnd zs (i + 1) := by
  have hi := in_of_dg h
  unfold digEnd
  rw [List.drop_eq_getElem_cons hi]
  have e : zs.getD i 0 = zs[i] := by simp [List.getD, hi]
  rw [e] at h
  rw [List.takeWhile_cons, if_pos h, List.length_cons]
  omega
theorem digEnd_stop {zs : List Int} {i : Nat} (h : dg (zs.getD i 0) = false) : digEnd zs i = i := by
  unfold digEnd
  by_cases hi : i < zs.length
  · rw [List.drop_eq_getElem_cons hi]
    have e : zs.getD i 0 = zs[i] := by simp [List.getD, hi]
    rw [e] at h
    rw [List.takeWhile_cons, if_neg (by rw [h]; simp)]
    simp
  · rw [List.drop_eq_nil_of_le (by omega)]
    simp
theorem digEnd_run {zs : List Int} {i : Nat} (n : Nat) (h : ∀ k, i ≤ k → k < i + n → dg (zs.getD k 0) = true) : digEnd zs i = digEnd zs (i + n) := by
  induction n with
  | zero => rfl
  | succ n ih =>
    rw [ih (fun k h1 h2 => h k h1 (by omega)), digEnd_step (h (i + n) (by omega) (by omega))]
    rfl
theorem digEnd_of {zs : List Int} {i j : Nat} (hij : i ≤ j) (h : ∀ k, i ≤ k → k < j → dg (zs.getD k 0) = true) (hs : dg (zs.getD j 0) = false) : digEnd zs i = j := by
  have e := digEnd_run (zs := zs) (i := i) (j - i) (fun k h1 h2 => h k h1 (by omega))
  rw [e, show i + (j - i) = j by omega, digEnd_stop hs]
theorem digEnd_ge (zs : List Int) (i : Nat) : i ≤ digEnd zs i := by unfold digEnd; omega

def isE (c : Int) : Bool := c == 101 || c == 69
def isS (c : Int) : Bool := c == 43 || c == 45

def digF (zs : List Int) (j : Nat) : Bool × Nat := (decide (j < digEnd zs j), digEnd zs j)
def sgnF (zs : List Int) (i : Nat) : Bool × Nat := if isS (zs.getD i 0) then digF zs (i + 1) else digF zs i
def expF (zs : List Int) (i : Nat) : Bool × Nat := if isE (zs.getD i 0) then sgnF zs (i + 1) else (true, i)
def dotF (zs : List Int) (i : Nat) : Bool × Nat := if i < digEnd zs i then expF zs (digEnd zs i) else (false, digEnd zs i)
def fracF (zs : List Int) (i : Nat) : Bool × Nat := if (zs.getD i 0 == 46) = true then dotF zs (i + 1) else expF zs i
def intF (zs : List Int) (i : Nat) : Bool × Nat := if (zs.getD i 0 == 48) = true then fracF zs (i + 1) else if i < digEnd zs i then fracF zs (digEnd zs i) else (false, digEnd zs i)
/-- What number answers, and where it stops. -/
def numF (zs : List Int) (i : Nat) : Bool × Nat := if (zs.getD i 0 == 45) = true then intF zs (i + 1) else intF zs i

/-- The automaton's step. -/
def stepF (s : Nat) (c : Int) : Option Nat :=
  match s with
  | 0 => if c == 45 then some 1 else if c == 48 then some 2 else if dg c then some 3 else none
  | 1 => if c == 48 then some 2 else if dg c then some 3 else none
  | 2 => if c == 46 then some 4 else if isE c then some 6 else none
  | 3 => if dg c then some 3 else if c == 46 then some 4 else if isE c then some 6 else none
  | 4 => if dg c then some 5 else none
  | 5 => if dg c then some 5 else if isE c then some 6 else none
  | 6 => if isS c then some 7 else if dg c then some 8 else none
  | 7 => if dg c then some 8 else none
  | 8 => if dg c then some 8 else none
  | _ => none
def accF (s : Nat) : Bool := s == 2 || s == 3 || s == 5 || s == 8

/-- What the reader answers from the state s at place p on. -/
def contF (zs : List Int) (s p : Nat) : Bool × Nat :=
  match s with
  | 0 => numF zs p
  | 1 => intF zs p
  | 2 => fracF zs p
  | 3 => fracF zs (digEnd zs p)
  | 4 => dotF zs p
  | 5 => expF zs (digEnd zs p)
  | 6 => sgnF zs p
  | 7 => digF zs p
  | 8 => (true, digEnd zs p)
  | _ => (false, p)

theorem beqt {a b : Int} (h : (a == b) = true) : a = b := by simpa using h

theorem digF_go {zs : List Int} {p : Nat} (h : dg (zs.getD p 0) = true) : digF zs p = (true, digEnd zs (p + 1)) := by
  rw [digF, digEnd_step h]
  have := digEnd_ge zs (p + 1)
  rw [decide_eq_true (by omega)]
theorem digF_no {zs : List Int} {p : Nat} (h : dg (zs.getD p 0) = false) : digF zs p = (false, p) := by
  rw [digF, digEnd_stop h, decide_eq_false (by omega)]
theorem expF_no {zs : List Int} {p : Nat} (h : isE (zs.getD p 0) = false) : expF zs p = (true, p) := by rw [expF, if_neg (by rw [h]; simp)]
theorem expF_go {zs : List Int} {p : Nat} (h : isE (zs.getD p 0) = true) : expF zs p = sgnF zs (p + 1) := by rw [expF, if_pos h]
theorem dotF_go {zs : List Int} {p : Nat} (h : dg (zs.getD p 0) = true) : dotF zs p = expF zs (digEnd zs (p + 1)) := by
  have := digEnd_ge zs (p + 1)
  rw [dotF, digEnd_step h, if_pos (by omega)]
theorem dotF_no {zs : List Int} {p : Nat} (h : dg (zs.getD p 0) = false) : dotF zs p = (false, p) := by
  rw [dotF, digEnd_stop h, if_neg (by omega)]
theorem fracF_dot {zs : List Int} {p : Nat} (h : (zs.getD p 0 == 46) = true) : fracF zs p = dotF zs (p + 1) := by rw [fracF, if_pos h]
theorem fracF_no {zs : List Int} {p : Nat} (h : (zs.getD p 0 == 46) = false) : fracF zs p = expF zs p := by rw [fracF, if_neg (by rw [h]; simp)]
theorem intF_zero {zs : List Int} {p : Nat} (h : (zs.getD p 0 == 48) = true) : intF zs p = fracF zs (p + 1) := by rw [intF, if_pos h]
theorem intF_go {zs : List Int} {p : Nat} (h0 : (zs.getD p 0 == 48) = false) (h : dg (zs.getD p 0) = true) : intF zs p = fracF zs (digEnd zs (p + 1)) := by
  have := digEnd_ge zs (p + 1)
  rw [intF, if_neg (by rw [h0]; simp), digEnd_step h, if_pos (by omega)]
theorem intF_no {zs : List Int} {p : Nat} (h : dg (zs.getD p 0) = false) : intF zs p = (false, p) := by
  have h0 : ¬ (zs.getD p 0 == 48) = true := by
    intro e; rw [beqt e] at h; revert h; decide
  rw [intF, if_neg h0, digEnd_stop h, if_neg (by omega)]
theorem numF_neg {zs : List Int} {p : Nat} (h : (zs.getD p 0 == 45) = true) : numF zs p = intF zs (p + 1) := by rw [numF, if_pos h]
theorem numF_pos {zs : List Int} {p : Nat} (h : (zs.getD p 0 == 45) = false) : numF zs p = intF zs p := by rw [numF, if_neg (by rw [h]; simp)]
theorem sgnF_go {zs : List Int} {p : Nat} (h : isS (zs.getD p 0) = true) : sgnF zs p = digF zs (p + 1) := by rw [sgnF, if_pos h]
theorem sgnF_no {zs : List Int} {p : Nat} (h : isS (zs.getD p 0) = false) : sgnF zs p = digF zs p := by rw [sgnF, if_neg (by rw [h]; simp)]

theorem bne_of {c : Int} {a : Int} (h : dg c = true) (ha : a < 48 ∨ 57 < a) : (c == a) = false := by
  have : 48 ≤ c ∧ c ≤ 57 := by simpa [dg] using h
  simp; omega
theorem isE_dg {c : Int} (h : isE c = true) : dg c = false := by
  simp [isE] at h
  rcases h with rfl | rfl <;> decide
theorem isE_46 {c : Int} (h : isE c = true) : (c == 46) = false := by
  simp [isE] at h
  rcases h with rfl | rfl <;> decide
theorem dg_of_beq {c a : Int} (h : (c == a) = true) (ha : dg a = false) : dg c = false := by rw [beqt h]; exact ha

/-- A step goes on with the same answer. -/
theorem cont_step {zs : List Int} {s p t : Nat} (h : stepF s (zs.getD p 0) = some t) : contF zs s p = contF zs t (p + 1) ∧ t ≤ 8 ∧ p < zs.length := by
  have hlt : p < zs.length := by
    refine in_of_ne (fun e => ?_)
    rw [e] at h
    unfold stepF at h
    split at h <;> simp [dg_zero, isE, isS] at h
  refine ⟨?_, ?_, hlt⟩
  · generalize hc : zs.getD p 0 = c at h
    unfold stepF at h
    split at h
    · by_cases h1 : (c == 45) = true
      · rw [if_pos h1] at h
        obtain rfl := Option.some.inj h
        exact numF_neg (by rw [hc]; exact h1)
      · rw [if_neg h1] at h
        have h1' : (c == 45) = false := by simpa using h1
        show numF zs p = _
        rw [numF_pos (by rw [hc]; exact h1')]
        by_cases h2 : (c == 48) = true
        · rw [if_pos h2] at h
          obtain rfl := Option.some.inj h
          exact intF_zero (by rw [hc]; exact h2)
        · rw [if_neg h2] at h
          have h2' : (c == 48) = false := by simpa using h2
          by_cases h3 : dg c = true
          · rw [if_pos h3] at h
            obtain rfl := Option.some.inj h
            exact intF_go (by rw [hc]; exact h2') (by rw [hc]; exact h3)
          · rw [if_neg h3] at h; cases h
    · by_cases h2 : (c == 48) = true
      · rw [if_pos h2] at h
        obtain rfl := Option.some.inj h
        exact intF_zero (by rw [hc]; exact h2)
      · rw [if_neg h2] at h
        have h2' : (c == 48) = false := by simpa using h2
        by_cases h3 : dg c = true
        · rw [if_pos h3] at h
          obtain rfl := Option.some.inj h
          exact intF_go (by rw [hc]; exact h2') (by rw [hc]; exact h3)
        · rw [if_neg h3] at h; cases h
    · by_cases h2 : (c == 46) = true
      · rw [if_pos h2] at h
        obtain rfl := Option.some.inj h
        exact fracF_dot (by rw [hc]; exact h2)
      · rw [if_neg h2] at h
        have h2' : (c == 46) = false := by simpa using h2
        by_cases h3 : isE c = true
        · rw [if_pos h3] at h
          obtain rfl := Option.some.inj h
          show fracF zs p = _
          rw [fracF_no (by rw [hc]; exact h2')]
          exact expF_go (by rw [hc]; exact h3)
        · rw [if_neg h3] at h; cases h
    · by_cases h1 : dg c = true
      · rw [if_pos h1] at h
        obtain rfl := Option.some.inj h
        show fracF zs (digEnd zs p) = fracF zs (digEnd zs (p + 1))
        rw [digEnd_step (by rw [hc]; exact h1)]
      · rw [if_neg h1] at h
        have h1' : dg c = false := by simpa using h1
        show fracF zs (digEnd zs p) = _
        rw [digEnd_stop (by rw [hc]; exact h1')]
        by_cases h2 : (c == 46) = true
        · rw [if_pos h2] at h
          obtain rfl := Option.some.inj h
          exact fracF_dot (by rw [hc]; exact h2)
        · rw [if_neg h2] at h
          have h2' : (c == 46) = false := by simpa using h2
          by_cases h3 : isE c = true
          · rw [if_pos h3] at h
            obtain rfl := Option.some.inj h
            rw [fracF_no (by rw [hc]; exact h2')]
            exact expF_go (by rw [hc]; exact h3)
          · rw [if_neg h3] at h; cases h
    · by_cases h1 : dg c = true
      · rw [if_pos h1] at h
        obtain rfl := Option.some.inj h
        exact dotF_go (by rw [hc]; exact h1)
      · rw [if_neg h1] at h; cases h
    · by_cases h1 : dg c = true
      · rw [if_pos h1] at h
        obtain rfl := Option.some.inj h
        show expF zs (digEnd zs p) = expF zs (digEnd zs (p + 1))
        rw [digEnd_step (by rw [hc]; exact h1)]
      · rw [if_neg h1] at h
        have h1' : dg c = false := by simpa using h1
        show expF zs (digEnd zs p) = _
        rw [digEnd_stop (by rw [hc]; exact h1')]
        by_cases h3 : isE c = true
        · rw [if_pos h3] at h
          obtain rfl := Option.some.inj h
          exact expF_go (by rw [hc]; exact h3)
        · rw [if_neg h3] at h; cases h
    · by_cases h1 : isS c = true
      · rw [if_pos h1] at h
        obtain rfl := Option.some.inj h
        exact sgnF_go (by rw [hc]; exact h1)
      · rw [if_neg h1] at h
        have h1' : isS c = false := by simpa using h1
        show sgnF zs p = _
        rw [sgnF_no (by rw [hc]; exact h1')]
        by_cases h3 : dg c = true
        · rw [if_pos h3] at h
          obtain rfl := Option.some.inj h
          exact digF_go (by rw [hc]; exact h3)
        · rw [if_neg h3] at h; cases h
    · by_cases h1 : dg c = true
      · rw [if_pos h1] at h
        obtain rfl := Option.some.inj h
        exact digF_go (by rw [hc]; exact h1)
      · rw [if_neg h1] at h; cases h
    · by_cases h1 : dg c = true
      · rw [if_pos h1] at h
        obtain rfl := Option.some.inj h
        show (true, digEnd zs p) = (true, digEnd zs (p + 1))
        rw [digEnd_step (by rw [hc]; exact h1)]
      · rw [if_neg h1] at h; cases h
    · cases h
  · unfold stepF at h
    split at h <;> (repeat' split at h) <;> simp at h <;> omega

/-- Where no step goes on the answer is the state's, and the place is here. -/
theorem cont_stop {zs : List Int} {s p : Nat} (hs : s ≤ 8) (h : stepF s (zs.getD p 0) = none) : contF zs s p = (accF s, p) := by
  generalize hc : zs.getD p 0 = c at h
  obtain rfl | rfl | rfl | rfl | rfl | rfl | rfl | rfl | rfl : s = 0 ∨ s = 1 ∨ s = 2 ∨ s = 3 ∨ s = 4 ∨ s = 5 ∨ s = 6 ∨ s = 7 ∨ s = 8 := by omega
  all_goals simp only [stepF] at h
  · by_cases h1 : (c == 45) = true
    · rw [if_pos h1] at h; cases h
    · rw [if_neg h1] at h
      by_cases h2 : (c == 48) = true
      · rw [if_pos h2] at h; cases h
      · rw [if_neg h2] at h
        by_cases h3 : dg c = true
        · rw [if_pos h3] at h; cases h
        · show numF zs p = _
          rw [numF_pos (by rw [hc]; simpa using h1), intF_no (by rw [hc]; simpa using h3)]; rfl
  · by_cases h2 : (c == 48) = true
    · rw [if_pos h2] at h; cases h
    · rw [if_neg h2] at h
      by_cases h3 : dg c = true
      · rw [if_pos h3] at h; cases h
      · show intF zs p = _
        rw [intF_no (by rw [hc]; simpa using h3)]; rfl
  · by_cases h2 : (c == 46) = true
    · rw [if_pos h2] at h; cases h
    · rw [if_neg h2] at h
      by_cases h3 : isE c = true
      · rw [if_pos h3] at h; cases h
      · show fracF zs p = _
        rw [fracF_no (by rw [hc]; simpa using h2), expF_no (by rw [hc]; simpa using h3)]; rfl
  · by_cases h1 : dg c = true
    · rw [if_pos h1] at h; cases h
    · rw [if_neg h1] at h
      by_cases h2 : (c == 46) = true
      · rw [if_pos h2] at h; cases h
      · rw [if_neg h2] at h
        by_cases h3 : isE c = true
        · rw [if_pos h3] at h; cases h
        · show fracF zs (digEnd zs p) = _
          rw [digEnd_stop (by rw [hc]; simpa using h1), fracF_no (by rw [hc]; simpa using h2), expF_no (by rw [hc]; simpa using h3)]; rfl
  · by_cases h1 : dg c = true
    · rw [if_pos h1] at h; cases h
    · show dotF zs p = _
      rw [dotF_no (by rw [hc]; simpa using h1)]; rfl
  · by_cases h1 : dg c = true
    · rw [if_pos h1] at h; cases h
    · rw [if_neg h1] at h
      by_cases h3 : isE c = true
      · rw [if_pos h3] at h; cases h
      · show expF zs (digEnd zs p) = _
        rw [digEnd_stop (by rw [hc]; simpa using h1), expF_no (by rw [hc]; simpa using h3)]; rfl
  · by_cases h1 : isS c = true
    · rw [if_pos h1] at h; cases h
    · rw [if_neg h1] at h
      by_cases h3 : dg c = true
      · rw [if_pos h3] at h; cases h
      · show sgnF zs p = _
        rw [sgnF_no (by rw [hc]; simpa using h1), digF_no (by rw [hc]; simpa using h3)]; rfl
  · by_cases h1 : dg c = true
    · rw [if_pos h1] at h; cases h
    · show digF zs p = _
      rw [digF_no (by rw [hc]; simpa using h1)]; rfl
  · by_cases h1 : dg c = true
    · rw [if_pos h1] at h; cases h
    · show (true, digEnd zs p) = _
      rw [digEnd_stop (by rw [hc]; simpa using h1)]; rfl

end Go.Proofs.Qxb6000362aMods
