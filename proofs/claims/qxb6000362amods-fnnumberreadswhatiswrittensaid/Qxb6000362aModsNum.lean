/-
  The walks of digits, number, ZZNumber.
-/
import Derived.Test.Qxb6000362aModsNumPlain
import Derived.Deep.DeepCutAuto
namespace Go.Proofs.Qxb6000362aMods
open Go.RowKit
set_option linter.unusedSimpArgs false
set_option linter.unusedVariables false

theorem dig_end {zs : List Int} {i j : Nat} (hij : i ≤ j) (h : ∀ k, i ≤ k → k < j → dg (zs.getD k 0) = true) (hs : dg (zs.getD j 0) = false) :
    digEnd zs i = j := digEnd_of hij h hs

set_option maxHeartbeats 400000 in
theorem digits_any (w0 w : World) (b cap i : Nat) (a : Option Addr) (zs : List Int) (h : At w0 b a zs.length cap i w) (hd : Data b w0 a zs) (hm : zs.length ≤ 1048592) (hi : i ≤ zs.length) :
    Calls Trym.prog 32 #[.pointer (some ⟨b, 0, none⟩)] w fun e w' => e = .returned (.bool (decide (i < digEnd zs i))) ∧ At w0 b a zs.length cap (digEnd zs i) w' ∧ digEnd zs i ≤ zs.length := by
  have hmm : zs.length ≤ maxLen := by unfold maxLen; omega
  have HA0 := hide h
  have HD := hide hd
  obtain ⟨_, c0, c1, fz⟩ := h
  clear hd
  go_enter Trym.func32, Trym.ntmps32
  go_wp2_with fail
  go_loopg [] (zs.length - i) (fun n wr => ∃ j : Nat, n = zs.length - j ∧ i ≤ j ∧ j ≤ zs.length ∧ (∀ k, i ≤ k → k < j → dg (zs.getD k 0) = true) ∧ At w0 b a zs.length cap j wr)
  case atStart => exact ⟨i, rfl, Nat.le_refl _, hi, fun k h1 h2 => by omega, HA0.out⟩
  case round =>
    obtain ⟨j, hgk, hij, hj, hs, hA⟩ := hrel
    have HG := hide hgk
    have HS := hide hs
    have HA := hide hA
    clear hgk hs hA c0 c1 fz
    have HP := hide (peek_any w0 wr b cap j a zs HA.out HD.out hmm)
    obtain ⟨z, hz⟩ : ∃ z, z = zs.getD j 0 := ⟨_, rfl⟩
    rw [← hz] at HP
    have HZ := hide hz
    clear hz
    by_cases hdz : dg z = true
    · have hjl : j < zs.length := in_of_dg (by rw [← HZ.out]; exact hdz)
      go_wp2_with fail
      refine HP.out.mono ?_
      rintro e w1 ⟨rfl, hA1⟩
      have HA1 := hide hA1
      obtain ⟨_, c0, c1, fz⟩ := hA1
      go_wp2_with (go_at_call 30; refine (isDigit_any _ _).mono ?_; rintro e w' ⟨rfl, rfl⟩)
      go_roundg (zs.length - (j + 1))
      case measure => rw [HG.out]; omega
      case rel => exact ⟨j + 1, rfl, by omega, by omega, skip_next HS.out hdz HZ.out, by rw [Int.natCast_add]; exact HA1.out.move _⟩
    · have hdz' : dg z = false := by simpa using hdz
      clear hdz
      have HE := hide (dig_end hij HS.out (by rw [← HZ.out]; exact hdz'))
      go_wp2_with fail
      refine HP.out.mono ?_
      rintro e w1 ⟨rfl, hA1⟩
      have HA1 := hide hA1
      obtain ⟨_, c0, c1, fz⟩ := hA1
      go_wp2_with (go_at_call 30; refine (isDigit_any _ _).mono ?_; rintro e w' ⟨rfl, rfl⟩)
      go_ret
      refine ⟨?_, by rw [HE.out]; exact HA1.out, by rw [HE.out]; exact hj⟩
      rw [HE.out]
      simp

set_option maxHeartbeats 1000000 in
theorem number_any (w0 w : World) (b cap i : Nat) (a : Option Addr) (zs : List Int) (h : At w0 b a zs.length cap i w) (hd : Data b w0 a zs) (hm : zs.length ≤ 1048592) (hi : i ≤ zs.length) :
    Calls Trym.prog 29 #[.pointer (some ⟨b, 0, none⟩)] w fun e w' => e = .returned (.bool (numF zs i).1) ∧ At w0 b a zs.length cap (numF zs i).2 w' := by
  have hmm : zs.length ≤ maxLen := by unfold maxLen; omega
  have HD := hide hd
  have HP := hide (peek_any w0 w b cap i a zs h hd hmm)
  clear hd h
  obtain ⟨z, hz⟩ : ∃ z, z = zs.getD i 0 := ⟨_, rfl⟩
  rw [← hz] at HP
  have HZ := hide hz
  clear hz
  go_enter Trym.func29, Trym.ntmps29
  go_upto_if 7 with (go_at_call 31; refine HP.out.mono ?_; rintro e w1 ⟨rfl, hA1⟩; have HA1 := hide hA1; obtain ⟨_, c0, c1, fz⟩ := hA1)
  go_cut [] (fun wc => ∃ j : Nat, numF zs i = intF zs j ∧ j ≤ zs.length ∧ At w0 b a zs.length cap j wc)
  case first =>
    by_cases hc : (z == 45) = true
    · have hil : i < zs.length := in_of_ne (by rw [← HZ.out, beqt hc]; decide)
      have HN := hide (numF_neg (zs := zs) (p := i) (by rw [← HZ.out]; exact hc))
      go_wp2
      go_meet
      case rel => exact ⟨i + 1, HN.out, by omega, by rw [Int.natCast_add]; exact HA1.out.move _⟩
    · have hc' : (z == 45) = false := by simpa using hc
      clear hc
      have HN := hide (numF_pos (zs := zs) (p := i) (by rw [← HZ.out]; exact hc'))
      go_wp2
      go_meet
      case rel => exact ⟨i, HN.out, hi, HA1.out⟩
  case rest =>
    obtain ⟨j, hN1, hj, hA2⟩ := hcut
    have HN1 := hide hN1
    have HQ := hide (peek_any w0 wc b cap j a zs hA2 HD.out hmm)
    clear hN1 hA2 HP HZ
    clear z
    obtain ⟨z, hz⟩ : ∃ z, z = zs.getD j 0 := ⟨_, rfl⟩
    rw [← hz] at HQ
    have HZ := hide hz
    clear hz
    go_upto_if 17 with (go_at_call 31; refine HQ.out.mono ?_; rintro e w2 ⟨rfl, hA1⟩; have HA1 := hide hA1; obtain ⟨_, c0, c1, fz⟩ := hA1)
    go_cut [] (fun wc => ∃ k : Nat, intF zs j = fracF zs k ∧ k ≤ zs.length ∧ At w0 b a zs.length cap k wc)
    case first =>
      by_cases hc : (z == 48) = true
      · have hil : j < zs.length := in_of_ne (by rw [← HZ.out, beqt hc]; decide)
        have HN := hide (intF_zero (zs := zs) (p := j) (by rw [← HZ.out]; exact hc))
        go_wp2
        go_meet
        case rel => exact ⟨j + 1, HN.out, by omega, by rw [Int.natCast_add]; exact HA1.out.move _⟩
      · have hc' : (z == 48) = false := by simpa using hc
        clear hc
        have HDG := hide (digits_any w0 w2 b cap j a zs HA1.out HD.out hm hj)
        have HDL := hide (digEnd_ge zs j)
        have HIF := hide (show intF zs j = if j < digEnd zs j then fracF zs (digEnd zs j) else (false, digEnd zs j) by rw [intF, if_neg (by rw [← HZ.out, hc']; simp)])
        obtain ⟨D, hD⟩ : ∃ D, D = digEnd zs j := ⟨_, rfl⟩
        rw [← hD] at HDG HDL HIF
        clear hD
        by_cases hjd : j < D
        · have hjd' : decide (j < D) = true := by simpa using hjd
          rw [hjd'] at HDG
          go_wp2_with fail
          refine HDG.out.mono ?_
          rintro e w3 ⟨rfl, hA3, hD3⟩
          have HA3 := hide hA3
          clear hA3
          go_wp2
          go_meet
          case rel => exact ⟨D, by rw [HIF.out, if_pos hjd], hD3, HA3.out⟩
        · have hjd' : decide (j < D) = false := by simpa using hjd
          rw [hjd'] at HDG
          go_wp2_with fail
          refine HDG.out.mono ?_
          rintro e w3 ⟨rfl, hA3, hD3⟩
          have HA3 := hide hA3
          clear hA3
          go_wp2
          go_ret
          rw [HN1.out, HIF.out, if_neg hjd]
          exact ⟨rfl, HA3.out⟩
    case rest =>
      obtain ⟨k, hN2, hk, hA3⟩ := hcut
      have HN2 := hide hN2
      have HR := hide (peek_any w0 wc b cap k a zs hA3 HD.out hmm)
      clear hN2 hA3 HQ HZ HA1 c0 c1 fz
      clear z
      obtain ⟨z, hz⟩ : ∃ z, z = zs.getD k 0 := ⟨_, rfl⟩
      rw [← hz] at HR
      have HZ := hide hz
      clear hz
      go_upto_if 30 with (go_at_call 31; refine HR.out.mono ?_; rintro e w4 ⟨rfl, hA1⟩; have HA1 := hide hA1; obtain ⟨_, c0, c1, fz⟩ := hA1)
      go_cut [] (fun wc => ∃ m : Nat, fracF zs k = expF zs m ∧ m ≤ zs.length ∧ At w0 b a zs.length cap m wc)
      case first =>
        by_cases hc : (z == 46) = true
        · have hil : k < zs.length := in_of_ne (by rw [← HZ.out, beqt hc]; decide)
          have HN := hide (fracF_dot (zs := zs) (p := k) (by rw [← HZ.out]; exact hc))
          have HDG := hide (fun w => fun (hA : At w0 b a zs.length cap ((k + 1 : Nat) : Int) w) => digits_any w0 w b cap (k + 1) a zs hA HD.out hm (by omega))
          have HIF := hide (show dotF zs (k + 1) = if k + 1 < digEnd zs (k + 1) then expF zs (digEnd zs (k + 1)) else (false, digEnd zs (k + 1)) from rfl)
          obtain ⟨D, hD⟩ : ∃ D, D = digEnd zs (k + 1) := ⟨_, rfl⟩
          rw [← hD] at HDG HIF
          clear hD
          by_cases hjd : k + 1 < D
          · have hjd' : decide (k + 1 < D) = true := by simpa using hjd
            rw [hjd'] at HDG
            go_wp2_with fail
            refine (HDG.out _ (by rw [Int.natCast_add]; exact HA1.out.move _)).mono ?_
            rintro e w5 ⟨rfl, hA5, hD5⟩
            have HA5 := hide hA5
            clear hA5
            go_wp2
            go_meet
            case rel => exact ⟨D, by rw [HN.out, HIF.out, if_pos hjd], hD5, HA5.out⟩
          · have hjd' : decide (k + 1 < D) = false := by simpa using hjd
            rw [hjd'] at HDG
            go_wp2_with fail
            refine (HDG.out _ (by rw [Int.natCast_add]; exact HA1.out.move _)).mono ?_
            rintro e w5 ⟨rfl, hA5, hD5⟩
            have HA5 := hide hA5
            clear hA5
            go_wp2
            go_ret
            rw [HN1.out, HN2.out, HN.out, HIF.out, if_neg hjd]
            exact ⟨rfl, HA5.out⟩
        · have hc' : (z == 46) = false := by simpa using hc
          clear hc
          have HN := hide (fracF_no (zs := zs) (p := k) (by rw [← HZ.out]; exact hc'))
          go_wp2
          go_meet
          case rel => exact ⟨k, HN.out, hk, HA1.out⟩
      case rest =>
        obtain ⟨m, hN3, hm3, hA4⟩ := hcut
        have HN3 := hide hN3
        have HS := hide (peek_any w0 wc b cap m a zs hA4 HD.out hmm)
        clear hN3 hA4 HR HZ HA1 c0 c1 fz
        clear z
        obtain ⟨z, hz⟩ : ∃ z, z = zs.getD m 0 := ⟨_, rfl⟩
        rw [← hz] at HS
        have HZ := hide hz
        clear hz
        by_cases hE : isE z = true
        · have HX := hide (expF_go (zs := zs) (p := m) (by rw [← HZ.out]; exact hE))
          have hil : m < zs.length := in_of_ne (by rw [← HZ.out]; intro e; rw [e] at hE; revert hE; decide)
          have HP2 := hide (fun w => fun (hA : At w0 b a zs.length cap ((m + 1 : Nat) : Int) w) => peek_any w0 w b cap (m + 1) a zs hA HD.out hmm)
          obtain ⟨y, hy⟩ : ∃ y, y = zs.getD (m + 1) 0 := ⟨_, rfl⟩
          rw [← hy] at HP2
          have HY := hide hy
          clear hy
          have HDG := hide (fun w q => fun (hq : q ≤ zs.length) (hA : At w0 b a zs.length cap ((q : Nat) : Int) w) => digits_any w0 w b cap q a zs hA HD.out hm hq)
          have hee : (z == 101) = true ∨ ((z == 101) = false ∧ (z == 69) = true) := by
            by_cases h : (z == 101) = true
            · exact .inl h
            · refine .inr ⟨by simpa using h, ?_⟩
              simpa [isE, h] using hE
          clear hE
          rcases hee with he1 | ⟨he1, he2⟩
          all_goals
            go_wp2_with fail
            refine HS.out.mono ?_
            rintro e w6 ⟨rfl, hA6⟩
            have HA6 := hide hA6
            obtain ⟨_, c0, c1, fz⟩ := hA6
            go_wp2_with fail
            refine (HP2.out _ (by rw [Int.natCast_add]; exact HA6.out.move _)).mono ?_
            clear c0 c1 fz
            rintro e w7 ⟨rfl, hA7⟩
            have HA7 := hide hA7
            obtain ⟨_, c0, c1, fz⟩ := hA7
            have hss : (y == 43) = true ∨ ((y == 43) = false ∧ (y == 45) = true) ∨ ((y == 43) = false ∧ (y == 45) = false) := by
              cases h1 : (y == 43) <;> cases h2 : (y == 45) <;> simp
            rcases hss with hs1 | ⟨hs1, hs2⟩ | ⟨hs1, hs2⟩
            · have hSY : isS y = true := by simp [isS, hs1]
              have hil2 : m + 1 < zs.length := in_of_ne (by rw [← HY.out, beqt hs1]; decide)
              have HS2 := hide (sgnF_go (zs := zs) (p := m + 1) (by rw [← HY.out]; exact hSY))
              go_wp2_with fail
              refine (HDG.out _ (m + 1 + 1) (by omega) (by rw [Int.natCast_add (m + 1)]; exact HA7.out.move _)).mono ?_
              rintro e w8 ⟨rfl, hA8, hD8⟩
              have HA8 := hide hA8
              clear hA8 c0 c1 fz
              go_wp2
              go_ret
              rw [HN1.out, HN2.out, HN3.out, HX.out, HS2.out]
              exact ⟨rfl, HA8.out⟩
            · have hSY : isS y = true := by simp [isS, hs2]
              have hil2 : m + 1 < zs.length := in_of_ne (by rw [← HY.out, beqt hs2]; decide)
              have HS2 := hide (sgnF_go (zs := zs) (p := m + 1) (by rw [← HY.out]; exact hSY))
              go_wp2_with fail
              refine (HDG.out _ (m + 1 + 1) (by omega) (by rw [Int.natCast_add (m + 1)]; exact HA7.out.move _)).mono ?_
              rintro e w8 ⟨rfl, hA8, hD8⟩
              have HA8 := hide hA8
              clear hA8 c0 c1 fz
              go_wp2
              go_ret
              rw [HN1.out, HN2.out, HN3.out, HX.out, HS2.out]
              exact ⟨rfl, HA8.out⟩
            · have hSY : isS y = false := by simp [isS, hs1, hs2]
              have HS2 := hide (sgnF_no (zs := zs) (p := m + 1) (by rw [← HY.out]; exact hSY))
              go_wp2_with fail
              refine (HDG.out _ (m + 1) (by omega) HA7.out).mono ?_
              rintro e w8 ⟨rfl, hA8, hD8⟩
              have HA8 := hide hA8
              clear hA8 c0 c1 fz
              go_wp2
              go_ret
              rw [HN1.out, HN2.out, HN3.out, HX.out, HS2.out]
              exact ⟨rfl, HA8.out⟩
        · have hE' : isE z = false := by simpa using hE
          have HX := hide (expF_no (zs := zs) (p := m) (by rw [← HZ.out]; exact hE'))
          have he1 : (z == 101) = false := by
            cases h : (z == 101)
            · rfl
            · simp [isE, h] at hE'
          have he2 : (z == 69) = false := by
            cases h : (z == 69)
            · rfl
            · simp [isE, h] at hE'
          clear hE hE'
          go_wp2_with fail
          refine HS.out.mono ?_
          rintro e w6 ⟨rfl, hA6⟩
          have HA6 := hide hA6
          clear hA6
          go_wp2
          go_ret
          rw [HN1.out, HN2.out, HN3.out, HX.out]
          exact ⟨rfl, HA6.out⟩

set_option maxHeartbeats 400000 in
theorem ZZNumber_any (w : World) (cap i : Nat) (a : Option Addr) (zs : List Int) (hd : Data w.heap.size w a zs) (hm : zs.length ≤ 1048592) (hi : i ≤ zs.length) :
    Calls Trym.prog 22 #[.slice a zs.length cap, .int .i64 i] w fun e w' => e = .returned (.tuple #[.bool (numF zs i).1, .int .i64 (numF zs i).2]) ∧ Below w.heap.size w w' := by
  have hA := hide (At.fresh w a zs.length cap i (.slice none 0 0) (.slice none 0 0) (.int .i64 0))
  go_enter Trym.func22, Trym.ntmps22
  go_wp2_with fail
  refine (number_any w _ w.heap.size cap i a zs hA.out hd hm hi).mono ?_
  rintro e w' ⟨rfl, h5⟩
  have hb := hide h5.bel
  obtain ⟨_, c0, c1, fz⟩ := h5
  clear hd hA
  go_wp2
  go_quiet (fail)
  go_wp2
  go_ret2
  exact ⟨rfl, below_drewN hb.out _⟩

end Go.Proofs.Qxb6000362aMods
