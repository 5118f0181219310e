/-
  The walks of hex4, ZZHex4, hexDigitOf, hexClass, lowerASCII.
-/
import Derived.Test.Qxb6000362aModsSkip
import Derived.Laws.BitsAllLaws
namespace Go.Proofs.Qxb6000362aMods
open Go.RowKit
set_option linter.unusedSimpArgs false
set_option linter.unusedVariables false

/-- The value of a hexadecimal digit. -/
def hv (c : Int) : Option Int := if dg c then some (c - 48) else if 97 ≤ c ∧ c ≤ 102 then some (c - 87) else if 65 ≤ c ∧ c ≤ 70 then some (c - 55) else none
def acc (v : Nat → Int) : Nat → Int
  | 0 => 0
  | k + 1 => acc v k * 16 + v k
def digAt (zs : List Int) (p : Nat) (k : Nat) : Option Int := hv (zs.getD (p + k) 0)
def valAt (zs : List Int) (p : Nat) (k : Nat) : Int := (digAt zs p k).getD 0
/-- Four hexadecimal digits stand from p on. -/
def hexAll (zs : List Int) (p : Nat) : Bool := (digAt zs p 0).isSome && (digAt zs p 1).isSome && (digAt zs p 2).isSome && (digAt zs p 3).isSome
def hexVal (zs : List Int) (p : Nat) : Int := if hexAll zs p then acc (valAt zs p) 4 else 0

theorem hv_range {z c : Int} (h : hv z = some c) : 0 ≤ c ∧ c ≤ 15 := by
  unfold hv dg at h
  split at h
  · rename_i h1
    simp at h h1
    omega
  · split at h
    · simp at h; omega
    · split at h
      · simp at h; omega
      · simp at h
theorem valAt_range (zs : List Int) (p k : Nat) : 0 ≤ valAt zs p k ∧ valAt zs p k ≤ 15 := by
  unfold valAt
  cases h : digAt zs p k with
  | none => simp
  | some c => exact hv_range h
theorem acc_range (v : Nat → Int) (hv : ∀ k, 0 ≤ v k ∧ v k ≤ 15) (k : Nat) (h : k < 4) : 0 ≤ acc v k ∧ acc v k ≤ 4095 := by
  have h0 := hv 0
  have h1 := hv 1
  have h2 := hv 2
  obtain rfl | rfl | rfl | rfl : k = 0 ∨ k = 1 ∨ k = 2 ∨ k = 3 := by omega
  all_goals simp only [acc]; omega
theorem i32_or4 (x y : Int) (hx₀ : 0 ≤ x) (hx : x % 16 = 0) (hx₁ : x < 2147483648) (h₀ : 0 ≤ y) (h₁ : y < 16) : bits .or .i32 x y = x + y :=
  bits_join .i32 31 (by decide) wraps_i32 4 x y hx₀ hx hx₁ h₀ h₁ (by omega)
theorem hex_step {zs : List Int} {p k : Nat} {A z c : Int} (hA : A = acc (valAt zs p) k) (hz : z = zs.getD (p + k) 0) (hv : hv z = some c) (h1 : 0 ≤ A) (h2 : A ≤ 4095) :
    bits .or .i32 (A * 16) c = acc (valAt zs p) (k + 1) := by
  have hr := hv_range hv
  rw [i32_or4 _ _ (by omega) (by omega) (by omega) (by omega) (by omega)]
  simp only [acc, ← hA, valAt, digAt, ← hz, hv, Option.getD]
theorem hex_next {zs : List Int} {p k : Nat} {z c : Int} (hall : ∀ m, m < k → (digAt zs p m).isSome = true) (hz : z = zs.getD (p + k) 0) (hv : hv z = some c) :
    ∀ m, m < k + 1 → (digAt zs p m).isSome = true := by
  intro m hm
  by_cases h : m < k
  · exact hall m h
  · obtain rfl : m = k := by omega
    rw [digAt, ← hz, hv]; rfl
theorem hex_done {zs : List Int} {p : Nat} (hall : ∀ m, m < 4 → (digAt zs p m).isSome = true) : hexAll zs p = true := by
  simp [hexAll, hall 0 (by omega), hall 1 (by omega), hall 2 (by omega), hall 3 (by omega)]
theorem hex_stop {zs : List Int} {p k : Nat} {z : Int} (hk : k < 4) (hz : z = zs.getD (p + k) 0) (hv : hv z = none) : hexAll zs p = false := by
  have h : (digAt zs p k).isSome = false := by rw [digAt, ← hz, hv]; rfl
  obtain rfl | rfl | rfl | rfl : k = 0 ∨ k = 1 ∨ k = 2 ∨ k = 3 := by omega
  all_goals simp [hexAll, h]

set_option maxHeartbeats 1000000 in
theorem hex4_in (w : World) (b cap g p : Nat) (zs : List Int) (c0 : w.cell? ⟨b, 0, none⟩ = some (.slice (some ⟨g, 0, none⟩) zs.length cap))
    (hd : ∀ k, k < zs.length → w.cell? ⟨g, k, none⟩ = some (.int .u8 (zs.getD k 0))) (hm : zs.length ≤ 1048592) (hcap : zs.length ≤ cap) (hcm : cap ≤ maxLen) (hp : p + 4 ≤ zs.length) :
    Calls Trym.prog 28 #[.pointer (some ⟨b, 0, none⟩), .int .i64 p] w fun e w' => e = .returned (.tuple #[.int .i32 (hexVal zs p), .bool (hexAll zs p)]) ∧ w = w' := by
  have HD := hide hd
  clear hd
  unfold maxLen at hcm
  have hs : decide ((zs.length : Int) - (p : Int) < 4) = false := by simp; omega
  go_enter Trym.func28, Trym.ntmps28
  go_wp2
  rw [show p + 4 - p = 4 from by omega]
  go_loopg [6, 26] 4 (fun n r t wr => ∃ k : Nat, n = 4 - k ∧ k ≤ 4 ∧ (∀ m, m < k → (digAt zs p m).isSome = true) ∧ t = .int .i64 k ∧ r = .int .i32 (acc (valAt zs p) k) ∧ w = wr)
  case atStart => exact ⟨0, rfl, by omega, fun m h => by omega, rfl, rfl, rfl⟩
  case round =>
    obtain ⟨k, hgk, hk, hall, rfl, rfl, rfl⟩ := hrel
    have HALL := hide hall
    have HG := hide hgk
    clear hall hgk
    by_cases hlt : k < 4
    · have hcell := HD.out (p + k) (by omega)
      obtain ⟨z, hz⟩ : ∃ z, z = zs.getD (p + k) 0 := ⟨_, rfl⟩
      rw [← hz] at hcell
      have HZ := hide hz
      clear hz
      have hAb := acc_range (valAt zs p) (valAt_range zs p) k hlt
      obtain ⟨A, hA⟩ : ∃ A, A = acc (valAt zs p) k := ⟨_, rfl⟩
      rw [← hA] at hAb ⊢
      have HAC := hide hA
      clear hA
      obtain ⟨hA1, hA2⟩ := hAb
      by_cases hdg : dg z = true
      · have hzr : 48 ≤ z ∧ z ≤ 57 := by simpa [dg] using hdg
        obtain ⟨hz1, hz2⟩ := hzr
        have HV := hide (show hv z = some (z - 48) by simp [hv, hdg])
        go_wp2_with (go_at_call 30; refine (isDigit_any _ _).mono ?_; rintro e w' ⟨rfl, rfl⟩)
        go_roundg (4 - (k + 1))
        case measure => rw [HG.out]; omega
        case rel => exact ⟨k + 1, rfl, by omega, hex_next HALL.out HZ.out HV.out, by go_num, by rw [hex_step HAC.out HZ.out HV.out hA1 hA2], rfl⟩
      · have hdg' : dg z = false := by simpa using hdg
        clear hdg
        by_cases ha : 97 ≤ z
        · by_cases ha2 : z ≤ 102
          · have HV := hide (show hv z = some (z - 87) by simp [hv, hdg', ha, ha2])
            go_wp2_with (go_at_call 30; refine (isDigit_any _ _).mono ?_; rintro e w' ⟨rfl, rfl⟩)
            go_roundg (4 - (k + 1))
            case measure => rw [HG.out]; omega
            case rel => exact ⟨k + 1, rfl, by omega, hex_next HALL.out HZ.out HV.out, by go_num, by rw [hex_step HAC.out HZ.out HV.out hA1 hA2], rfl⟩
          · have HV := hide (show hv z = none by simp [hv, hdg', ha2]; omega)
            have h65 : 65 ≤ z := by omega
            have h70 : ¬ z ≤ 70 := by omega
            go_wp2_with (go_at_call 30; refine (isDigit_any _ _).mono ?_; rintro e w' ⟨rfl, rfl⟩)
            go_ret2
            exact ⟨by rw [hexVal, hex_stop hlt HZ.out HV.out]; rfl, rfl⟩
        · have hae : decide (97 ≤ z) = false := by simpa using ha
          by_cases hb : 65 ≤ z
          · by_cases hb2 : z ≤ 70
            · have HV := hide (show hv z = some (z - 55) by simp [hv, hdg', ha, hb, hb2])
              go_wp2_with (go_at_call 30; refine (isDigit_any _ _).mono ?_; rintro e w' ⟨rfl, rfl⟩)
              go_roundg (4 - (k + 1))
              case measure => rw [HG.out]; omega
              case rel => exact ⟨k + 1, rfl, by omega, hex_next HALL.out HZ.out HV.out, by go_num, by rw [hex_step HAC.out HZ.out HV.out hA1 hA2], rfl⟩
            · have HV := hide (show hv z = none by simp [hv, hdg', ha, hb2])
              go_wp2_with (go_at_call 30; refine (isDigit_any _ _).mono ?_; rintro e w' ⟨rfl, rfl⟩)
              go_ret2
              exact ⟨by rw [hexVal, hex_stop hlt HZ.out HV.out]; rfl, rfl⟩
          · have hbe : decide (65 ≤ z) = false := by simpa using hb
            have HV := hide (show hv z = none by simp [hv, hdg', ha, hb])
            go_wp2_with (go_at_call 30; refine (isDigit_any _ _).mono ?_; rintro e w' ⟨rfl, rfl⟩)
            go_ret2
            exact ⟨by rw [hexVal, hex_stop hlt HZ.out HV.out]; rfl, rfl⟩
    · obtain rfl : k = 4 := by omega
      go_wp2
      go_ret2
      exact ⟨by rw [hexVal, hex_done HALL.out]; rfl, rfl⟩

set_option maxHeartbeats 400000 in
theorem hex4_short (w : World) (b cap len : Nat) (a : Option Addr) (p : Nat) (c0 : w.cell? ⟨b, 0, none⟩ = some (.slice a len cap))
    (hm : len ≤ 1048592) (hp : len < p + 4) (hp2 : p ≤ 9223372036854775807) :
    Calls Trym.prog 28 #[.pointer (some ⟨b, 0, none⟩), .int .i64 p] w fun e w' => e = .returned (.tuple #[.int .i32 0, .bool false]) ∧ w = w' := by
  have hs : (len : Int) - (p : Int) < 4 := by omega
  go_enter Trym.func28, Trym.ntmps28
  go_wp2
  go_ret2
  exact ⟨rfl, rfl⟩

end Go.Proofs.Qxb6000362aMods
