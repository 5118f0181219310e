/-
  The walk of FnNumberAgreesWithAutomaton.
-/
import Derived.Test.Qxb6000362aModsNumStep
import Derived.Test.Qxb6000362aModsSkip
namespace Go.Proofs.Qxb6000362aMods
open Go.RowKit
set_option linter.unusedSimpArgs false
set_option linter.unusedVariables false

theorem zz21_yes (a : Option Addr) (len cap : Nat) (i : Int) (w : World) (h : len ≤ 1048576) :
    Calls Trym.prog 21 #[.slice a len cap, .int .i64 i] w fun e w' => e = .returned (.bool true) ∧ w = w' := by
  go_enter Trym.func21, Trym.ntmps21
  go_wp2
  go_ret
  exact ⟨rfl, rfl⟩
theorem zz21_no (a : Option Addr) (len cap : Nat) (i : Int) (w : World) (h : 1048576 < len) :
    Calls Trym.prog 21 #[.slice a len cap, .int .i64 i] w fun e w' => e = .returned (.bool false) ∧ w = w' := by
  go_enter Trym.func21, Trym.ntmps21
  go_wp2
  go_ret
  exact ⟨rfl, rfl⟩

theorem agree_long (a : Option Addr) (len cap : Nat) (i : Int) (w : World) (h : 1048576 < len) :
    Calls Trym.prog 8 #[.slice a len cap, .int .i64 i] w fun e w' => e = .returned (.bool true) ∧ Below w.heap.size w w' := by
  go_enter Trym.func8, Trym.ntmps8
  go_wp2_with (go_at_call 21; refine (zz21_no _ _ _ _ _ h).mono ?_; rintro e w' ⟨rfl, rfl⟩)
  go_ret
  exact ⟨rfl, Below.refl _ _⟩

theorem agree_neg (a : Option Addr) (len cap : Nat) (i : Int) (w : World) (h : len ≤ 1048576) (hi : i < 0) :
    Calls Trym.prog 8 #[.slice a len cap, .int .i64 i] w fun e w' => e = .returned (.bool true) ∧ Below w.heap.size w w' := by
  go_enter Trym.func8, Trym.ntmps8
  go_wp2_with (go_at_call 21; refine (zz21_yes _ _ _ _ _ h).mono ?_; rintro e w' ⟨rfl, rfl⟩)
  go_ret
  exact ⟨rfl, Below.refl _ _⟩

theorem agree_past (a : Option Addr) (len cap : Nat) (i : Int) (w : World) (h : len ≤ 1048576) (hi : (len : Int) < i) :
    Calls Trym.prog 8 #[.slice a len cap, .int .i64 i] w fun e w' => e = .returned (.bool true) ∧ Below w.heap.size w w' := by
  have h0 : decide (i < 0) = false := by simp; omega
  go_enter Trym.func8, Trym.ntmps8
  go_wp2_with (go_at_call 21; refine (zz21_yes _ _ _ _ _ h).mono ?_; rintro e w' ⟨rfl, rfl⟩)
  go_ret
  exact ⟨rfl, Below.refl _ _⟩

theorem stepF_zero (s : Nat) : stepF s 0 = none := by
  unfold stepF
  split <;> simp [dg_zero, isE, isS]
theorem stepI_some {s t : Nat} {c : Int} (h : stepF s c = some t) : stepI s c = t := by unfold stepI; rw [h]
theorem stepI_none {s : Nat} {c : Int} (h : stepF s c = none) : stepI s c = -1 := by unfold stepI; rw [h]
theorem stop_eq {zs : List Int} {s p i : Nat} (hs : s ≤ 8) (hC : contF zs s p = numF zs i) (h : stepF s (zs.getD p 0) = none) : (numF zs i).1 = accF s ∧ (numF zs i).2 = p := by
  rw [← hC, cont_stop hs h]
  exact ⟨rfl, rfl⟩

set_option maxHeartbeats 1000000 in
theorem agree_some (x : Addr) (cap i : Nat) (w : World) (zs : List Int) (h : zs.length ≤ 1048576) (hi : i ≤ zs.length)
    (hc : ∀ k, k < zs.length → w.cell? (x.add k) = some (.int .u8 (zs.getD k 0))) :
    Calls Trym.prog 8 #[.slice (some x) zs.length cap, .int .i64 i] w fun e w' => e = .returned (.bool true) ∧ Below w.heap.size w w' := by
  have h0 : decide ((i : Int) < 0) = false := by simp
  have h1 : decide (zs.length < i) = false := by simp; omega
  have hl1 : decide ((1048576 : Int) < (zs.length : Int)) = false := by simp; omega
  have hne := fun w => run_neq_slice_nil_any (P := Trym.prog) w 22 5 (some x) zs.length cap 0 0 Trym.underlying22
  have hmk := fun w => run_make_row' (P := Trym.prog) 22 5 (.int .u8 0) 1 Trym.underlying22 Trym.info5 rfl .i64 .i64 zs.length (by omega) (by omega) w
  have HC := hide hc
  clear hc
  go_enter Trym.func8, Trym.ntmps8
  go_wp2_with (first | (go_at_call 21; refine (zz21_yes _ _ _ _ _ h).mono ?_; rintro e w' ⟨rfl, rfl⟩) | (refine wpList_copied rfl (.tmp 31) (.tmp 32) rfl x cap zs rfl rfl HC.out ?_; intro w1 HD HB))
  refine (ZZNumber_any w1 zs.length i (some ⟨w.heap.size, 0, none⟩) zs HD.out (by omega) hi).mono ?_
  rintro e w2 ⟨rfl, h6⟩
  have HB2 := hide (HB.out.trans (h6.mono HB.out.size))
  have HD2 := hide (HD.out.below h6)
  clear h6 HD HB hmk hne HC
  obtain ⟨B, hB⟩ : ∃ B, B = (numF zs i).1 := ⟨_, rfl⟩
  obtain ⟨E, hE⟩ : ∃ E, E = (numF zs i).2 := ⟨_, rfl⟩
  rw [← hB, ← hE]
  have HBq := hide hB
  have HEq := hide hE
  clear hB hE
  go_wp2
  go_loopg [8, 9] (zs.length - i) (fun n sv pv wr => ∃ s p : Nat, n = zs.length - p ∧ s ≤ 8 ∧ p ≤ zs.length ∧ contF zs s p = numF zs i ∧ sv = .int .i64 s ∧ pv = .int .i64 p ∧ w2 = wr)
  case atStart => exact ⟨0, i, rfl, by omega, hi, rfl, rfl, rfl, rfl⟩
  case round =>
    obtain ⟨s, p, hgk, hs, hp, hC, rfl, rfl, rfl⟩ := hrel
    have HG := hide hgk
    have HCt := hide hC
    clear hgk hC
    by_cases hlt : p < zs.length
    · have hcell := HD2.out.cell hlt
      cases hst : stepF s (zs.getD p 0) with
      | some t =>
        have hn := stepI_some hst
        have HN := hide (cont_step hst)
        have ht : t ≤ 8 := (cont_step hst).2.1
        clear hst
        have HS := hide (step_call s hs (zs.getD p 0))
        rw [hn] at HS
        clear hn
        generalize zs.getD p 0 = z at hcell HS
        go_wp2_with (go_at_call 23; refine (HS.out _).mono ?_; rintro e w' ⟨rfl, rfl⟩)
        go_roundg (zs.length - (p + 1))
        case measure => rw [HG.out]; omega
        case rel => exact ⟨t, p + 1, rfl, ht, by omega, by rw [← HN.out.1]; exact HCt.out, rfl, by go_num, rfl⟩
      | none =>
        have hn := stepI_none hst
        have HN := stop_eq hs HCt.out hst
        clear hst
        obtain rfl : B = accF s := HBq.out.trans HN.1
        obtain rfl : E = p := HEq.out.trans HN.2
        clear HN
        have HS := hide (step_call s hs (zs.getD E 0))
        rw [hn] at HS
        clear hn
        generalize zs.getD E 0 = z at hcell HS
        go_wp2_with (first | (go_at_call 23; refine (HS.out _).mono ?_; rintro e w' ⟨rfl, rfl⟩) | (go_at_call 24; refine (accepts_call s hs _).mono ?_; rintro e w' ⟨rfl, rfl⟩))
        go_ret
        exact ⟨rfl, HB2.out⟩
    · have hst : stepF s (zs.getD p 0) = none := by
        have e : zs.getD p 0 = 0 := by simp [List.getD, show zs.length ≤ p by omega]
        rw [e]; exact stepF_zero s
      have HN := stop_eq hs HCt.out hst
      clear hst
      obtain rfl : B = accF s := HBq.out.trans HN.1
      obtain rfl : E = p := HEq.out.trans HN.2
      clear HN
      go_wp2_with (go_at_call 24; refine (accepts_call s hs _).mono ?_; rintro e w' ⟨rfl, rfl⟩)
      go_ret
      exact ⟨rfl, HB2.out⟩

theorem ZZNumber_nil (w : World) : Calls Trym.prog 22 #[.slice none 0 0, .int .i64 0] w fun e w' => e = .returned (.tuple #[.bool false, .int .i64 0]) ∧ Below w.heap.size w w' := by
  have h := ZZNumber_any w 0 0 none [] (fun k hk => by simp at hk) (by simp) (by simp)
  refine h.mono ?_
  rintro e w' ⟨rfl, hb⟩
  exact ⟨rfl, hb⟩

set_option maxHeartbeats 400000 in
theorem agree_nil (w : World) :
    Calls Trym.prog 8 #[.slice none 0 0, .int .i64 0] w fun e w' => e = .returned (.bool true) ∧ Below w.heap.size w w' := by
  have hne := fun w => run_neq_slice_nil_any (P := Trym.prog) w 22 5 none 0 0 0 0 Trym.underlying22
  go_enter Trym.func8, Trym.ntmps8
  go_wp2_with (first | (go_at_call 21; refine (zz21_yes _ _ _ _ _ (Nat.zero_le _)).mono ?_; rintro e w' ⟨rfl, rfl⟩) | (go_at_call 22; refine (ZZNumber_nil _).mono ?_; rintro e w1 ⟨rfl, hb⟩))
  go_loopg [8, 9] 0 (fun n sv pv wr => sv = .int .i64 0 ∧ pv = .int .i64 0 ∧ w1 = wr)
  case atStart => exact ⟨rfl, rfl, rfl⟩
  case round =>
    obtain ⟨rfl, rfl, rfl⟩ := hrel
    have HA := hide (fun w => accepts_call 0 (by omega) w)
    go_wp2_with (go_at_call 24; refine (HA.out _).mono ?_; rintro e w' ⟨rfl, rfl⟩)
    go_ret
    exact ⟨rfl, hb⟩

end Go.Proofs.Qxb6000362aMods
