/-
  The shared walks of the seat: small predicates, the scanner's peek and skipSpace.
-/
import Derived.Test.Qxb6000362aModsRows
import Derived.WalkKit
import Derived.WalkSpells
import Derived.WalkLawsBesides
import Derived.Deep.QuietTactic
import Derived.BigQuiet
import Derived.RegionTactic
import Derived.ChangeAlike
import Derived.Deep.LoopGhost
namespace Go.Proofs.Qxb6000362aMods
open Go.RowKit
set_option linter.unusedSimpArgs false
set_option linter.unusedVariables false

theorem hide {p : Prop} (h : p) : Hid p := h

/-- The four bytes of JSON's whitespace. -/
def sp (c : Int) : Bool := c == 32 || c == 9 || c == 10 || c == 13
/-- A decimal digit. -/
def dg (c : Int) : Bool := decide (48 ≤ c) && decide (c ≤ 57)

/-- The bytes 'zs' lie at the head of a block below B. -/
def Data (B : Nat) (w : World) (a : Option Addr) (zs : List Int) : Prop :=
  ∀ k, k < zs.length → ∃ g, a = some ⟨g, 0, none⟩ ∧ g < B ∧ w.cell? ⟨g, k, none⟩ = some (.int .u8 (zs.getD k 0))

theorem Data.below {B : Nat} {w w' : World} {a : Option Addr} {zs : List Int} (h : Data B w a zs) (hb : Below B w w') : Data B w' a zs := by
  intro k hk
  obtain ⟨g, h1, h2, h3⟩ := h k hk
  exact ⟨g, h1, h2, by rw [hb.cell (by exact h2)]; exact h3⟩

/-- The scanner in block b: its data and its place; below b all is as it was. -/
structure At (w0 : World) (b : Nat) (a : Option Addr) (len cap : Nat) (i : Int) (w : World) : Prop where
  bel : Below b w0 w
  c0 : w.cell? ⟨b, 0, none⟩ = some (.slice a len cap)
  c1 : w.cell? ⟨b, 1, none⟩ = some (.int .i64 i)
  fz : w.frozen? ⟨b, 1, none⟩ = false

theorem isJSONSpace_any (c : Int) (w : World) :
    Calls Trym.prog 12 #[.int .u8 c] w fun e w' => e = .returned (.bool (sp c)) ∧ w = w' := by
  unfold sp
  by_cases h1 : (c == 32) = true
  · go_enter Trym.func12, Trym.ntmps12
    go_wp2
    go_ret
    exact ⟨by simp [h1], rfl⟩
  · have h1' : (c == 32) = false := by simpa using h1
    by_cases h2 : (c == 9) = true
    · go_enter Trym.func12, Trym.ntmps12
      go_wp2
      go_ret
      exact ⟨by simp [h2], rfl⟩
    · have h2' : (c == 9) = false := by simpa using h2
      by_cases h3 : (c == 10) = true
      · go_enter Trym.func12, Trym.ntmps12
        go_wp2
        go_ret
        exact ⟨by simp [h3], rfl⟩
      · have h3' : (c == 10) = false := by simpa using h3
        go_enter Trym.func12, Trym.ntmps12
        go_wp2
        go_ret
        exact ⟨by simp [h1', h2', h3'], rfl⟩

theorem isDigit_any (c : Int) (w : World) :
    Calls Trym.prog 30 #[.int .u8 c] w fun e w' => e = .returned (.bool (dg c)) ∧ w = w' := by
  unfold dg
  by_cases h1 : 48 ≤ c
  · go_enter Trym.func30, Trym.ntmps30
    go_wp2
    go_ret
    exact ⟨by simp [h1], rfl⟩
  · have h1' : decide (48 ≤ c) = false := by simpa using h1
    go_enter Trym.func30, Trym.ntmps30
    go_wp2
    go_ret
    exact ⟨by simp [h1'], rfl⟩

theorem At.drewN {w0 w : World} {b : Nat} {a : Option Addr} {len cap : Nat} {i : Int} (h : At w0 b a len cap i w) (n : Nat) : At w0 b a len cap i (w.drewN n) :=
  ⟨below_drewN h.bel n, by simpa using h.c0, by simpa using h.c1, by simpa using h.fz⟩

theorem At.move {w0 w : World} {b : Nat} {a : Option Addr} {len cap : Nat} {i : Int} (h : At w0 b a len cap i w) (j : Int) : At w0 b a len cap j (w.setCell ⟨b, 1, none⟩ (.int .i64 j)) := by
  refine ⟨h.bel.setCell (Nat.le_refl _) _, ?_, ?_, ?_⟩
  · have := h.c0; simp [this, go_sem]
  · have := h.c1; simp [this, go_sem]
  · have := h.fz; simp [this, go_sem]

set_option maxHeartbeats 400000 in
theorem peek_in (w0 w : World) (b cap k g : Nat) (zs : List Int) (h : At w0 b (some ⟨g, 0, none⟩) zs.length cap k w) (hk : k < zs.length) (hm : zs.length ≤ maxLen)
    (hc : w.cell? ⟨g, k, none⟩ = some (.int .u8 (zs.getD k 0))) :
    Calls Trym.prog 31 #[.pointer (some ⟨b, 0, none⟩)] w fun e w' => e = .returned (.int .u8 (zs.getD k 0)) ∧ At w0 b (some ⟨g, 0, none⟩) zs.length cap k w' := by
  have hA : Hid (At w0 b (some ⟨g, 0, none⟩) zs.length cap k w) := h
  obtain ⟨hb, c0, c1, fz⟩ := h
  clear hb
  unfold maxLen at hm
  have hk' : (k : Int) < (zs.length : Int) := by omega
  generalize zs.getD k 0 = z at *
  generalize zs.length = len at *
  go_enter Trym.func31, Trym.ntmps31
  go_wp2
  go_quiet (fail)
  go_wp2
  go_quiet (fail)
  go_wp2
  go_ret
  exact ⟨rfl, (hA.out.drewN _).drewN _⟩

set_option maxHeartbeats 400000 in
theorem peek_out (w0 w : World) (b cap k : Nat) (a : Option Addr) (zs : List Int) (h : At w0 b a zs.length cap k w) (hk : zs.length ≤ k) (hm : zs.length ≤ maxLen) :
    Calls Trym.prog 31 #[.pointer (some ⟨b, 0, none⟩)] w fun e w' => e = .returned (.int .u8 (zs.getD k 0)) ∧ At w0 b a zs.length cap k w' := by
  have hA : Hid (At w0 b a zs.length cap k w) := h
  have hz : zs.getD k 0 = 0 := by simp [List.getD, hk]
  rw [hz]
  clear hz
  obtain ⟨hb, c0, c1, fz⟩ := h
  clear hb
  unfold maxLen at hm
  have hk' : (zs.length : Int) ≤ (k : Int) := by omega
  generalize zs.length = len at *
  go_enter Trym.func31, Trym.ntmps31
  go_wp2
  go_quiet (fail)
  go_wp2
  go_ret
  exact ⟨rfl, hA.out.drewN _⟩

theorem peek_any (w0 w : World) (b cap k : Nat) (a : Option Addr) (zs : List Int) (h : At w0 b a zs.length cap k w) (hd : Data b w0 a zs) (hm : zs.length ≤ maxLen) :
    Calls Trym.prog 31 #[.pointer (some ⟨b, 0, none⟩)] w fun e w' => e = .returned (.int .u8 (zs.getD k 0)) ∧ At w0 b a zs.length cap k w' := by
  by_cases hk : k < zs.length
  · obtain ⟨g, rfl, hg, hc⟩ := (hd.below h.bel) k hk
    exact peek_in w0 w b cap k g zs h hk hm hc
  · exact peek_out w0 w b cap k a zs h (by omega) hm

theorem sp1 {z : Int} (h : (z == 32) = true) : sp z = true := by simp [sp, h]
theorem sp2 {z : Int} (h : (z == 9) = true) : sp z = true := by simp [sp, h]
theorem sp3 {z : Int} (h : (z == 10) = true) : sp z = true := by simp [sp, h]
theorem sp4 {z : Int} (h : (z == 13) = true) : sp z = true := by simp [sp, h]
theorem sp0 {z : Int} (h1 : (z == 32) = false) (h2 : (z == 9) = false) (h3 : (z == 10) = false) (h4 : (z == 13) = false) : sp z = false := by simp [sp, h1, h2, h3, h4]
theorem skip_next {p : Int → Bool} {zs : List Int} {i j : Nat} {z : Int} (hs : ∀ k, i ≤ k → k < j → p (zs.getD k 0) = true) (hz : p z = true) (e : z = zs.getD j 0) :
    ∀ k, i ≤ k → k < j + 1 → p (zs.getD k 0) = true := by
  intro k h1 h2
  by_cases h : k < j
  · exact hs k h1 h
  · obtain rfl : k = j := by omega
    rw [← e]; exact hz

set_option maxHeartbeats 400000 in
theorem skipSpace_any (w0 w : World) (b cap i : Nat) (a : Option Addr) (zs : List Int) (h : At w0 b a zs.length cap i w) (hd : Data b w0 a zs) (hm : zs.length ≤ maxLen) (hi : i ≤ zs.length) :
    Calls Trym.prog 27 #[.pointer (some ⟨b, 0, none⟩)] w fun e w' => e = .returned (.tuple #[]) ∧
      ∃ j : Nat, i ≤ j ∧ j ≤ zs.length ∧ (∀ k, i ≤ k → k < j → sp (zs.getD k 0) = true) ∧ (j < zs.length → sp (zs.getD j 0) = false) ∧ At w0 b a zs.length cap j w' := by
  unfold maxLen at hm
  go_enter Trym.func27, Trym.ntmps27
  go_wp2
  go_loopg [] (zs.length - i) (fun n wr => ∃ j : Nat, n = zs.length - j ∧ i ≤ j ∧ j ≤ zs.length ∧ (∀ k, i ≤ k → k < j → sp (zs.getD k 0) = true) ∧ At w0 b a zs.length cap j wr)
  case atStart => exact ⟨i, rfl, Nat.le_refl _, hi, fun k h1 h2 => by omega, h⟩
  case round =>
    obtain ⟨j, hgk, hij, hj, hs, hA⟩ := hrel
    have HG : Hid (gk = zs.length - j) := hgk
    have HA : Hid (At w0 b a zs.length cap j wr) := hA
    have HS : Hid (∀ k, i ≤ k → k < j → sp (zs.getD k 0) = true) := hs
    have HD : Hid (Data b w0 a zs) := hd
    clear hgk hs h
    by_cases hlt : j < zs.length
    · obtain ⟨g, rfl, hg, hc⟩ := (hd.below hA.bel) j hlt
      obtain ⟨hb, c0, c1, fz⟩ := hA
      clear hb hd
      have hk' : (j : Int) < (zs.length : Int) := by omega
      obtain ⟨z, hz⟩ : ∃ z, z = zs.getD j 0 := ⟨_, rfl⟩
      rw [← hz] at hc
      have HZ : Hid (z = zs.getD j 0) := hz
      clear hz
      go_wp2
      go_quiet (fail)
      go_wp2
      go_quiet (fail)
      go_wp2
      rotate_right
      · have hsp : sp z = false := sp0 (by assumption) (by assumption) (by assumption) (by assumption)
        refine bodyPost_ret (results_none rfl _ _ _) rfl ?_
        exact ⟨rfl, j, hij, hj, HS.out, fun _ => by rw [← HZ.out]; exact hsp, HA.out.drewN _⟩
      all_goals
        have hsp : sp z = true := by first | exact sp1 (by assumption) | exact sp2 (by assumption) | exact sp3 (by assumption) | exact sp4 (by assumption)
        go_roundg (zs.length - (j + 1))
        case measure => rw [HG.out]; omega
        case rel => exact ⟨j + 1, rfl, by omega, by omega, skip_next HS.out hsp HZ.out, by rw [Int.natCast_add]; exact (HA.out.drewN _).move _⟩
    · obtain ⟨hb, c0, c1, fz⟩ := hA
      clear hb hd
      have hk' : (zs.length : Int) ≤ (j : Int) := by omega
      go_wp2
      go_quiet (fail)
      go_wp2
      go_end0
      exact ⟨rfl, j, hij, hj, HS.out, fun h => absurd h hlt, HA.out.drewN _⟩

theorem At.fresh (w : World) (a : Option Addr) (len cap : Nat) (i : Int) (u v x : Value) : At w w.heap.size a len cap i (w.alloc (.cells #[.slice a len cap, .int .i64 i, u, v, x] 45)) :=
  ⟨(Below.refl _ _).alloc (Nat.le_refl _) _, by simp [go_sem], by simp [go_sem], by simp [go_sem]⟩

set_option maxHeartbeats 400000 in
theorem ZZSkip_any (w : World) (cap i : Nat) (a : Option Addr) (zs : List Int) (hd : Data w.heap.size w a zs) (hm : zs.length ≤ maxLen) (hi : i ≤ zs.length) :
    Calls Trym.prog 11 #[.slice a zs.length cap, .int .i64 i] w fun e w' =>
      ∃ j : Nat, e = .returned (.int .i64 j) ∧ i ≤ j ∧ j ≤ zs.length ∧ (∀ k, i ≤ k → k < j → sp (zs.getD k 0) = true) ∧ (j < zs.length → sp (zs.getD j 0) = false) ∧ Below w.heap.size w w' := by
  have hA := hide (At.fresh w a zs.length cap i (.slice none 0 0) (.slice none 0 0) (.int .i64 0))
  go_enter Trym.func11, Trym.ntmps11
  go_wp2_with fail
  refine (skipSpace_any w _ w.heap.size cap i a zs hA.out hd hm hi).mono ?_
  rintro e w' ⟨rfl, j, h1, h2, h3, h4, h5⟩
  have hb := hide h5.bel
  obtain ⟨_, c0, c1, fz⟩ := h5
  have H3 := hide h3
  have H4 := hide h4
  clear h3 h4 hd
  go_wp2
  go_ret
  exact ⟨j, rfl, h1, h2, H3.out, H4.out, hb.out⟩

end Go.Proofs.Qxb6000362aMods
