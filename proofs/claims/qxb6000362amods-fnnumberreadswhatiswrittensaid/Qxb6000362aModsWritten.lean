/-
  The plain law of a written number: the reader reads it to its last byte.
-/
import Derived.Test.Qxb6000362aModsNumPlain
namespace Go.Proofs.Qxb6000362aMods
open Go.RowKit
set_option linter.unusedSimpArgs false
set_option linter.unusedVariables false

/-- The j-th digit that appendDigits writes. -/
def oneD (f : Bool) (ds : List Int) (j : Nat) : Int := if j = 0 ∧ f = true ∧ ds.getD j 0 % 10 = 0 ∧ 1 < ds.length then 49 else 48 + ds.getD j 0 % 10
def wrTo (f : Bool) (ds : List Int) (k : Nat) : List Int := (List.range k).map (oneD f ds)
def wrD (f : Bool) (ds : List Int) : List Int := if ds.length = 0 then [48] else wrTo f ds ds.length

theorem wrTo_succ (f : Bool) (ds : List Int) (k : Nat) : wrTo f ds (k + 1) = wrTo f ds k ++ [oneD f ds k] := by
  simp [wrTo, List.range_succ]
theorem wrTo_len (f : Bool) (ds : List Int) (k : Nat) : (wrTo f ds k).length = k := by simp [wrTo]
theorem oneD_dg (f : Bool) (ds : List Int) (j : Nat) : dg (oneD f ds j) = true := by
  unfold oneD
  split
  · decide
  · simp [dg]; omega
theorem wrD_dg (f : Bool) (ds : List Int) : ∀ x ∈ wrD f ds, dg x = true := by
  intro x hx
  unfold wrD at hx
  split at hx
  · simp at hx; subst hx; decide
  · obtain ⟨j, _, rfl⟩ := List.mem_map.1 hx
    exact oneD_dg f ds j
theorem wrD_pos (f : Bool) (ds : List Int) : 0 < (wrD f ds).length := by
  unfold wrD
  split
  · simp
  · rw [wrTo_len]; omega
theorem wrD_zero (ds : List Int) (h : (wrD true ds).headD 0 = 48) : (wrD true ds).length = 1 := by
  unfold wrD at h ⊢
  split
  · rfl
  · rename_i hl
    rw [if_neg hl] at h
    rw [wrTo_len]
    have e : (wrTo true ds ds.length).headD 0 = oneD true ds 0 := by
      obtain ⟨n, hn⟩ : ∃ n, ds.length = n + 1 := ⟨ds.length - 1, by omega⟩
      rw [hn, wrTo, List.range_succ_eq_map]
      rfl
    rw [e] at h
    unfold oneD at h
    split at h
    · omega
    · rename_i hc
      by_cases h1 : 1 < ds.length
      · exact absurd ⟨rfl, rfl, by omega, h1⟩ hc
      · omega

theorem head_at {zs R : List Int} {p : Nat} (h : zs.drop p = R) : zs.getD p 0 = R.headD 0 := by
  subst h
  simp [List.getD, List.headD_eq_head?_getD, List.head?_drop]
theorem drop_more {zs A R : List Int} {p : Nat} (h : zs.drop p = A ++ R) : zs.drop (p + A.length) = R := by
  rw [← List.drop_drop, h]
  simp
theorem take_digits {W R : List Int} (hW : ∀ x ∈ W, dg x = true) (hR : dg (R.headD 0) = false) : ((W ++ R).takeWhile dg).length = W.length := by
  rw [List.takeWhile_append_of_pos hW]
  have : R.takeWhile dg = [] := by
    cases R with
    | nil => rfl
    | cons x r => rw [List.takeWhile_cons, if_neg (by simp at hR; simp [hR])]
  simp [this]
theorem digEnd_at {zs W R : List Int} {p : Nat} (h : zs.drop p = W ++ R) (hW : ∀ x ∈ W, dg x = true) (hR : dg (R.headD 0) = false) : digEnd zs p = p + W.length := by
  rw [digEnd, h, take_digits hW hR]

/-- What may stand behind a number: no digit, no point, no e. -/
structure Ends (tl : List Int) : Prop where
  d : dg (tl.headD 0) = false
  p : (tl.headD 0 == 46) = false
  e : isE (tl.headD 0) = false

/-- The exponent's text. -/
def ExpT (X : List Int) : Prop := X = [] ∨ ∃ e sg D, X = e :: (sg ++ D) ∧ isE e = true ∧ (sg = [] ∨ ∃ s, sg = [s] ∧ isS s = true) ∧ (∀ x ∈ D, dg x = true) ∧ 0 < D.length
/-- The fraction's text. -/
def FracT (F : List Int) : Prop := F = [] ∨ ∃ D, F = 46 :: D ∧ (∀ x ∈ D, dg x = true) ∧ 0 < D.length

theorem dg_isS {x : Int} (h : dg x = true) : isS x = false := by
  have : 48 ≤ x ∧ x ≤ 57 := by simpa [dg] using h
  simp [isS]; omega

theorem digF_at {zs D R : List Int} {p : Nat} (h : zs.drop p = D ++ R) (hD : ∀ x ∈ D, dg x = true) (h0 : 0 < D.length) (hR : dg (R.headD 0) = false) : digF zs p = (true, p + D.length) := by
  rw [digF, digEnd_at h hD hR, decide_eq_true (by omega)]
theorem head_D {D R : List Int} (hD : ∀ x ∈ D, dg x = true) (h0 : 0 < D.length) : dg ((D ++ R).headD 0) = true := by
  cases D with
  | nil => simp at h0
  | cons x r => exact hD x (by simp)

theorem expF_at {zs X tl : List Int} {p : Nat} (h : zs.drop p = X ++ tl) (hX : ExpT X) (ht : Ends tl) : expF zs p = (true, p + X.length) := by
  rcases hX with rfl | ⟨e, sg, D, rfl, he, hs, hD, h0⟩
  · exact expF_no (by rw [head_at h]; exact ht.e)
  · rw [expF_go (by rw [head_at h]; exact he)]
    have h1 : zs.drop (p + 1) = sg ++ (D ++ tl) := by
      have := drop_more (A := [e]) (R := sg ++ D ++ tl) (p := p) (zs := zs) (by rw [h]; rfl)
      rw [← List.append_assoc]; exact this
    rcases hs with rfl | ⟨s, rfl, hs⟩
    · rw [List.nil_append] at h1
      rw [sgnF_no (by rw [head_at h1]; exact dg_isS (head_D hD h0)), digF_at h1 hD h0 ht.d]
      simp; omega
    · have h2 : zs.drop (p + 1 + 1) = D ++ tl := drop_more (A := [s]) h1
      rw [sgnF_go (by rw [head_at h1]; exact hs), digF_at h2 hD h0 ht.d]
      simp; omega

theorem exp_head {X tl : List Int} (hX : ExpT X) (ht : Ends tl) : dg ((X ++ tl).headD 0) = false ∧ ((X ++ tl).headD 0 == 46) = false := by
  rcases hX with rfl | ⟨e, sg, D, rfl, he, _⟩
  · exact ⟨ht.d, ht.p⟩
  · exact ⟨isE_dg he, isE_46 he⟩

theorem fracF_at {zs F X tl : List Int} {p : Nat} (h : zs.drop p = F ++ (X ++ tl)) (hF : FracT F) (hX : ExpT X) (ht : Ends tl) : fracF zs p = (true, p + (F ++ X).length) := by
  have hh := exp_head hX ht
  rcases hF with rfl | ⟨D, rfl, hD, h0⟩
  · rw [List.nil_append] at h
    rw [fracF_no (by rw [head_at h]; exact hh.2), expF_at h hX ht]
    simp
  · rw [fracF_dot (by rw [head_at h]; rfl)]
    have h1 : zs.drop (p + 1) = D ++ (X ++ tl) := drop_more (A := [46]) (R := D ++ (X ++ tl)) (p := p) (zs := zs) (by rw [h]; rfl)
    have h2 := drop_more h1
    rw [dotF, digEnd_at h1 hD hh.1, if_pos (by omega), expF_at h2 hX ht]
    simp; omega

theorem frac_head {F X tl : List Int} (hF : FracT F) (hX : ExpT X) (ht : Ends tl) : dg ((F ++ (X ++ tl)).headD 0) = false := by
  rcases hF with rfl | ⟨D, rfl, _⟩
  · exact (exp_head hX ht).1
  · show dg 46 = false
    decide

theorem intF_at {zs W F X tl : List Int} {p : Nat} (h : zs.drop p = W ++ (F ++ (X ++ tl))) (hW : ∀ x ∈ W, dg x = true) (h0 : 0 < W.length) (hz : W.headD 0 = 48 → W.length = 1) (hF : FracT F) (hX : ExpT X) (ht : Ends tl) :
    intF zs p = (true, p + (W ++ (F ++ X)).length) := by
  have h1 := drop_more h
  have e : intF zs p = fracF zs (p + W.length) := by
    by_cases hc : (zs.getD p 0 == 48) = true
    · rw [intF_zero hc]
      have : W.headD 0 = 48 := by
        have := beqt hc
        rw [head_at h] at this
        cases W with
        | nil => simp at h0
        | cons x r => simpa using this
      rw [hz this]
    · rw [intF, if_neg hc, digEnd_at h hW (frac_head hF hX ht), if_pos (by omega)]
  rw [e, fracF_at h1 hF hX ht]
  simp; omega

/-- A written number is read to its last byte. -/
theorem numF_at {zs S W F X tl : List Int} {p : Nat} (h : zs.drop p = S ++ (W ++ (F ++ (X ++ tl)))) (hS : S = [] ∨ S = [45]) (hW : ∀ x ∈ W, dg x = true) (h0 : 0 < W.length) (hz : W.headD 0 = 48 → W.length = 1) (hF : FracT F) (hX : ExpT X) (ht : Ends tl) :
    numF zs p = (true, p + (S ++ (W ++ (F ++ X))).length) := by
  rcases hS with rfl | rfl
  · rw [List.nil_append] at h
    rw [numF_pos, intF_at h hW h0 hz hF hX ht]
    · simp
    · rw [head_at h]
      exact bne_of (head_D hW h0) (.inl (by omega))
  · have h1 : zs.drop (p + 1) = W ++ (F ++ (X ++ tl)) := drop_more (A := [45]) h
    rw [numF_neg (by rw [head_at h]; rfl), intF_at h1 hW h0 hz hF hX ht]
    simp; omega

end Go.Proofs.Qxb6000362aMods
