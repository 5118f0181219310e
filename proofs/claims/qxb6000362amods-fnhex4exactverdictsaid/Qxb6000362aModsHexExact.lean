/-
  The walk of FnHex4ExactVerdict.
-/
import Derived.Test.Qxb6000362aModsHexReads
namespace Go.Proofs.Qxb6000362aMods
open Go.RowKit
set_option linter.unusedSimpArgs false
set_option linter.unusedVariables false

/-- An upper-case letter lowered. -/
def lowB (c : Int) : Int := if 65 ≤ c ∧ c ≤ 90 then c + 32 else c

theorem same_turn {P : Program} {f : FuncId} {args : Array Value} {w : World} {v : Value} (h : Calls P f args w fun e w' => e = .returned v ∧ w = w') : Calls P f args w fun e w' => e = .returned v ∧ w' = w :=
  h.mono fun _ _ ⟨a, b⟩ => ⟨a, b.symm⟩

theorem lowerASCII_any (c : Int) (w : World) (h0 : 0 ≤ c) (h1 : c ≤ 255) :
    Calls Trym.prog 20 #[.int .u8 c] w fun e w' => e = .returned (.int .u8 (lowB c)) ∧ w = w' := by
  by_cases ha : 65 ≤ c
  · by_cases hb : c ≤ 90
    · go_enter Trym.func20, Trym.ntmps20
      go_wp2
      go_ret
      exact ⟨by rw [lowB, if_pos ⟨ha, hb⟩]; rfl, rfl⟩
    · have hL : lowB c = c := by rw [lowB, if_neg (by omega)]
      have HL := hide hL
      clear hL
      go_enter Trym.func20, Trym.ntmps20
      go_wp2
      go_ret
      exact ⟨by rw [HL.out]; rfl, rfl⟩
  · have had : decide (65 ≤ c) = false := by simpa using ha
    go_enter Trym.func20, Trym.ntmps20
    go_wp2
    go_ret
    exact ⟨by rw [lowB, if_neg (by simp at had; omega)]; rfl, rfl⟩

theorem hexClass_any (c : Int) (w : World) :
    Calls Trym.prog 19 #[.int .u8 c] w fun e w' => e = .returned (.bool (hv c).isSome) ∧ w = w' := by
  by_cases hd : dg c = true
  · have hzr : 48 ≤ c ∧ c ≤ 57 := by simpa [dg] using hd
    obtain ⟨hz1, hz2⟩ := hzr
    have HE := hide (show (hv c).isSome = true by simp [hv, hd])
    go_enter Trym.func19, Trym.ntmps19
    go_wp2
    go_ret
    exact ⟨by rw [HE.out]; rfl, rfl⟩
  · have hd' : dg c = false := by simpa using hd
    have hdd : (decide (48 ≤ c) && decide (c ≤ 57)) = false := hd'
    clear hd
    by_cases ha : 97 ≤ c
    · have h48 : 48 ≤ c := by omega
      have h57 : ¬ c ≤ 57 := by simp at hdd; omega
      by_cases ha2 : c ≤ 102
      · have HE := hide (show (hv c).isSome = true by simp [hv, hd', ha, ha2])
        go_enter Trym.func19, Trym.ntmps19
        go_wp2
        go_ret
        exact ⟨by rw [HE.out]; rfl, rfl⟩
      · have h65 : 65 ≤ c := by omega
        have h70 : ¬ c ≤ 70 := by omega
        have HE := hide (show (hv c).isSome = false by simp [hv, hd', ha2, h70])
        go_enter Trym.func19, Trym.ntmps19
        go_wp2
        go_ret
        exact ⟨by rw [HE.out]; simp [h70], rfl⟩
    · have had : decide (97 ≤ c) = false := by simpa using ha
      by_cases h48 : 48 ≤ c
      · have h57 : ¬ c ≤ 57 := by simp at hdd; omega
        by_cases hb : 65 ≤ c
        · by_cases hb2 : c ≤ 70
          · have HE := hide (show (hv c).isSome = true by simp [hv, hd', ha, hb, hb2])
            go_enter Trym.func19, Trym.ntmps19
            go_wp2
            go_ret
            exact ⟨by rw [HE.out]; simp [hb2], rfl⟩
          · have HE := hide (show (hv c).isSome = false by simp [hv, hd', ha, hb2])
            go_enter Trym.func19, Trym.ntmps19
            go_wp2
            go_ret
            exact ⟨by rw [HE.out]; simp [hb2], rfl⟩
        · have hbd : decide (65 ≤ c) = false := by simpa using hb
          have HE := hide (show (hv c).isSome = false by simp [hv, hd', ha, hb])
          go_enter Trym.func19, Trym.ntmps19
          go_wp2
          go_ret
          exact ⟨by rw [HE.out]; rfl, rfl⟩
      · have h48d : decide (48 ≤ c) = false := by simpa using h48
        have hb : ¬ 65 ≤ c := by omega
        have hbd : decide (65 ≤ c) = false := by simpa using hb
        have HE := hide (show (hv c).isSome = false by simp [hv, hd', ha, hb])
        go_enter Trym.func19, Trym.ntmps19
        go_wp2
        go_ret
        exact ⟨by rw [HE.out]; rfl, rfl⟩

theorem zz18_yes (a : Option Addr) (len cap : Nat) (i : Int) (w : World) (h : len ≤ 1048576) :
    Calls Trym.prog 18 #[.slice a len cap, .int .i64 i] w fun e w' => e = .returned (.bool true) ∧ w = w' := by
  go_enter Trym.func18, Trym.ntmps18
  go_wp2
  go_ret
  exact ⟨rfl, rfl⟩
theorem zz18_no (a : Option Addr) (len cap : Nat) (i : Int) (w : World) (h : 1048576 < len) :
    Calls Trym.prog 18 #[.slice a len cap, .int .i64 i] w fun e w' => e = .returned (.bool false) ∧ w = w' := by
  go_enter Trym.func18, Trym.ntmps18
  go_wp2
  go_ret
  exact ⟨rfl, rfl⟩

theorem exact_long (a : Option Addr) (len cap : Nat) (i : Int) (w : World) (h : 1048576 < len) :
    Calls Trym.prog 7 #[.slice a len cap, .int .i64 i] w fun e w' => e = .returned (.bool true) ∧ Below w.heap.size w w' := by
  go_enter Trym.func7, Trym.ntmps7
  go_wp2_with (go_at_call 18; refine (zz18_no _ _ _ _ _ h).mono ?_; rintro e w' ⟨rfl, rfl⟩)
  go_ret
  exact ⟨rfl, Below.refl _ _⟩

theorem exact_neg (a : Option Addr) (len cap : Nat) (i : Int) (w : World) (h : len ≤ 1048576) (hi : i < 0) :
    Calls Trym.prog 7 #[.slice a len cap, .int .i64 i] w fun e w' => e = .returned (.bool true) ∧ Below w.heap.size w w' := by
  go_enter Trym.func7, Trym.ntmps7
  go_wp2_with (go_at_call 18; refine (zz18_yes _ _ _ _ _ h).mono ?_; rintro e w' ⟨rfl, rfl⟩)
  go_ret
  exact ⟨rfl, Below.refl _ _⟩

theorem ZZHex4_short (w : World) (cap len p : Nat) (a : Option Addr) (hm : len ≤ 1048592) (hp : len < p + 4) (hp2 : p ≤ 9223372036854775807) :
    Calls Trym.prog 17 #[.slice a len cap, .int .i64 p] w fun e w' => e = .returned (.tuple #[.int .i32 0, .bool false]) ∧ Below w.heap.size w w' := by
  have hA := hide (At.fresh w a len cap 0 (.slice none 0 0) (.slice none 0 0) (.int .i64 0))
  go_enter Trym.func17, Trym.ntmps17
  go_wp2_with fail
  refine (hex4_short _ w.heap.size cap len a p hA.out.c0 hm hp hp2).mono ?_
  rintro e w' ⟨rfl, rfl⟩
  go_wp2
  go_ret2
  exact ⟨rfl, hA.out.bel⟩

set_option maxHeartbeats 400000 in
theorem exact_nil (p : Nat) (hp : p ≤ 9223372036854775807) (w : World) :
    Calls Trym.prog 7 #[.slice none 0 0, .int .i64 p] w fun e w' => e = .returned (.bool true) ∧ Below w.heap.size w w' := by
  have hne := fun w => run_neq_slice_nil_any (P := Trym.prog) w 22 5 none 0 0 0 0 Trym.underlying22
  have hz := fun w => ZZHex4_short w 0 0 p none (by omega) (by omega) hp
  have HZ := hide hz
  clear hz
  by_cases h0 : p = 0
  · subst h0
    go_enter Trym.func7, Trym.ntmps7
    go_wp2_with (first | (go_at_call 18; refine (zz18_yes _ _ _ _ _ (Nat.zero_le _)).mono ?_; rintro e w' ⟨rfl, rfl⟩) | (go_at_call 17; refine (HZ.out _).mono ?_; rintro e w1 ⟨rfl, hb⟩))
    go_ret
    exact ⟨rfl, hb⟩
  · have hle : decide ((p : Int) ≤ 0) = false := by simp; omega
    go_enter Trym.func7, Trym.ntmps7
    go_wp2_with (first | (go_at_call 18; refine (zz18_yes _ _ _ _ _ (Nat.zero_le _)).mono ?_; rintro e w' ⟨rfl, rfl⟩) | (go_at_call 17; refine (HZ.out _).mono ?_; rintro e w1 ⟨rfl, hb⟩))
    go_ret
    exact ⟨rfl, hb⟩

/-- Are the first k bytes from p on hexadecimal digits? -/
def allTo (zs : List Int) (p : Nat) : Nat → Bool
  | 0 => true
  | k + 1 => allTo zs p k && (digAt zs p k).isSome
theorem allTo_four (zs : List Int) (p : Nat) : allTo zs p 4 = hexAll zs p := by simp [allTo, hexAll]

theorem nib_of_acc (v : Nat → Int) (h : ∀ k, 0 ≤ v k ∧ v k ≤ 15) (k : Nat) (hk : k < 4) : nib (acc v 4) k = v k := by
  have h0 := h 0
  have h1 := h 1
  have h2 := h 2
  have h3 := h 3
  obtain rfl | rfl | rfl | rfl : k = 0 ∨ k = 1 ∨ k = 2 ∨ k = 3 := by omega
  all_goals simp only [acc, nib]; omega
theorem low_of_hv {z d : Int} (h : hv z = some d) : hexB d false = lowB z := by
  unfold hv dg at h
  split at h
  · rename_i h1
    simp at h h1
    rw [hexB, if_pos (by omega), lowB, if_neg (by omega)]; omega
  · split at h
    · simp at h
      rw [hexB, if_neg (by omega), if_neg (by simp), lowB, if_neg (by omega)]; omega
    · split at h
      · simp at h
        rw [hexB, if_neg (by omega), if_neg (by simp), lowB, if_pos (by omega)]; omega
      · simp at h
theorem dig_some {zs : List Int} {p : Nat} (h : hexAll zs p = true) (k : Nat) (hk : k < 4) : digAt zs p k = some (valAt zs p k) := by
  simp only [hexAll, Bool.and_eq_true] at h
  obtain ⟨⟨⟨h0, h1⟩, h2⟩, h3⟩ := h
  obtain rfl | rfl | rfl | rfl : k = 0 ∨ k = 1 ∨ k = 2 ∨ k = 3 := by omega
  · obtain ⟨v, hv⟩ := Option.isSome_iff_exists.1 h0; simp [valAt, hv]
  · obtain ⟨v, hv⟩ := Option.isSome_iff_exists.1 h1; simp [valAt, hv]
  · obtain ⟨v, hv⟩ := Option.isSome_iff_exists.1 h2; simp [valAt, hv]
  · obtain ⟨v, hv⟩ := Option.isSome_iff_exists.1 h3; simp [valAt, hv]
theorem key {zs : List Int} {p k : Nat} {V z L : Int} (hV : V = hexVal zs p) (hall : true = hexAll zs p) (hk : k < 4) (hz : z = zs.getD (p + k) 0) (hL : L = lowB z) : hexB (nib V k) false = L := by
  rw [hV, hexVal, if_pos hall.symm, nib_of_acc _ (valAt_range zs p) k hk, hL]
  refine low_of_hv ?_
  rw [hz]
  exact dig_some hall.symm k hk
theorem digit_call (x L V : Int) (k : Nat) (w : World) (h0 : 0 ≤ x) (h1 : x ≤ 4294967295) (h : hexB (nib V k) false = L) (hx : nib V k = x % 16) :
    Calls Trym.prog 16 #[.int .i64 (bits .and .i64 x 15), .bool false] w fun e w' => e = .returned (.int .u8 L) ∧ w' = w := by
  rw [← h, hx]
  exact same_turn (hexDigitOf_bits x false w h0 h1)
theorem Data.drewN {B : Nat} {w : World} {a : Option Addr} {zs : List Int} (h : Data B w a zs) (n : Nat) : Data B (w.drewN n) a zs := by
  intro k hk
  obtain ⟨g, h1, h2, h3⟩ := h k hk
  exact ⟨g, h1, h2, by simpa using h3⟩
theorem hexVal_range (zs : List Int) (p : Nat) : 0 ≤ hexVal zs p ∧ hexVal zs p ≤ 65535 := by
  unfold hexVal
  split
  · have h := acc_range (valAt zs p) (valAt_range zs p) 3 (by omega)
    have h3 := valAt_range zs p 3
    rw [acc]
    omega
  · omega

set_option maxHeartbeats 1000000 in
theorem exact_short (x : Addr) (cap p : Nat) (w : World) (zs : List Int) (h : zs.length ≤ 1048576) (hp : zs.length < p + 4) (hp2 : p ≤ 9223372036854775807)
    (hc : ∀ k, k < zs.length → w.cell? (x.add k) = some (.int .u8 (zs.getD k 0))) :
    Calls Trym.prog 7 #[.slice (some x) zs.length cap, .int .i64 p] w fun e w' => e = .returned (.bool true) ∧ Below w.heap.size w w' := by
  have hne := fun w => run_neq_slice_nil_any (P := Trym.prog) w 22 5 (some x) zs.length cap 0 0 Trym.underlying22
  have hmk := fun w => run_make_row' (P := Trym.prog) 22 5 (.int .u8 0) 1 Trym.underlying22 Trym.info5 rfl .i64 .i64 zs.length (by omega) (by omega) w
  have HC := hide hc
  have HZ := hide (fun w => ZZHex4_short w zs.length zs.length p (some ⟨w.heap.size, 0, none⟩) (by omega) hp hp2)
  clear hc
  by_cases hle : p ≤ zs.length
  · have hsub : decide ((4 : Int) ≤ (zs.length : Int) - (p : Int)) = false := by simp; omega
    go_enter Trym.func7, Trym.ntmps7
    go_wp2_with (first | (go_at_call 18; refine (zz18_yes _ _ _ _ _ h).mono ?_; rintro e w' ⟨rfl, rfl⟩) | (refine wpList_copied rfl (.tmp 27) (.tmp 28) rfl x cap zs rfl rfl HC.out ?_; intro w1 HD HB))
    refine (ZZHex4_short w1 zs.length zs.length p (some ⟨w.heap.size, 0, none⟩) (by omega) hp hp2).mono ?_
    rintro e w2 ⟨rfl, h6⟩
    have HB2 := hide (HB.out.trans (h6.mono HB.out.size))
    clear h6 HD HB hmk hne HC
    go_wp2
    go_ret
    exact ⟨rfl, HB2.out⟩
  · have hled : decide (p ≤ zs.length) = false := by simpa using hle
    go_enter Trym.func7, Trym.ntmps7
    go_wp2_with (first | (go_at_call 18; refine (zz18_yes _ _ _ _ _ h).mono ?_; rintro e w' ⟨rfl, rfl⟩) | (refine wpList_copied rfl (.tmp 27) (.tmp 28) rfl x cap zs rfl rfl HC.out ?_; intro w1 HD HB))
    refine (ZZHex4_short w1 zs.length zs.length p (some ⟨w.heap.size, 0, none⟩) (by omega) hp hp2).mono ?_
    rintro e w2 ⟨rfl, h6⟩
    have HB2 := hide (HB.out.trans (h6.mono HB.out.size))
    clear h6 HD HB hmk hne HC
    go_wp2
    go_ret
    exact ⟨rfl, HB2.out⟩

set_option maxHeartbeats 1000000 in
theorem exact_in (x : Addr) (cap p : Nat) (w : World) (zs : List Int) (h : zs.length ≤ 1048576) (hp : p + 4 ≤ zs.length) (hz : ∀ k, 0 ≤ zs.getD k 0 ∧ zs.getD k 0 ≤ 255)
    (hc : ∀ k, k < zs.length → w.cell? (x.add k) = some (.int .u8 (zs.getD k 0))) :
    Calls Trym.prog 7 #[.slice (some x) zs.length cap, .int .i64 p] w fun e w' => e = .returned (.bool true) ∧ Below w.heap.size w w' := by
  have hne := fun w => run_neq_slice_nil_any (P := Trym.prog) w 22 5 (some x) zs.length cap 0 0 Trym.underlying22
  have hmk := fun w => run_make_row' (P := Trym.prog) 22 5 (.int .u8 0) 1 Trym.underlying22 Trym.info5 rfl .i64 .i64 zs.length (by omega) (by omega) w
  have HC := hide hc
  have HZR := hide hz
  clear hc hz
  have hle : p ≤ zs.length := by omega
  have hled : decide (p ≤ zs.length) = true := by simpa using hle
  have hsub : (4 : Int) ≤ (zs.length : Int) - (p : Int) := by omega
  have hpn : decide ((p : Int) < 0) = false := by simp
  go_enter Trym.func7, Trym.ntmps7
  go_wp2_with (first | (go_at_call 18; refine (zz18_yes _ _ _ _ _ h).mono ?_; rintro e w' ⟨rfl, rfl⟩) | (refine wpList_copied rfl (.tmp 27) (.tmp 28) rfl x cap zs rfl rfl HC.out ?_; intro w1 HD HB))
  refine (ZZHex4_in w1 zs.length w.heap.size p zs HD.out (by omega) (Nat.le_refl _) (by unfold maxLen; omega) hp).mono ?_
  rintro e w2 ⟨rfl, h6⟩
  have HB2 := hide (HB.out.trans (h6.mono HB.out.size))
  have HD2 := hide (HD.out.below h6)
  clear h6 HD HB hmk hne HC
  have hl1 : decide ((1048576 : Int) < (zs.length : Int)) = false := by simp; omega
  obtain ⟨V, hV⟩ : ∃ V, V = hexVal zs p := ⟨_, rfl⟩
  obtain ⟨B, hB⟩ : ∃ B, B = hexAll zs p := ⟨_, rfl⟩
  rw [← hV, ← hB]
  have HV := hide hV
  have HBB := hide hB
  clear hV hB
  have hVr : 0 ≤ V ∧ V ≤ 65535 := by rw [HV.out]; exact hexVal_range zs p
  obtain ⟨hV0, hV1⟩ := hVr
  go_wp2
  go_loopg [9, 10] 4 (fun n c t wr => ∃ k : Nat, n = 4 - k ∧ k ≤ 4 ∧ t = .int .i64 k ∧ c = .bool (allTo zs p k) ∧ w2 = wr)
  case atStart => exact ⟨0, rfl, by omega, rfl, rfl, rfl⟩
  case round =>
    obtain ⟨k, hgk, hk, rfl, rfl, rfl⟩ := hrel
    have HG := hide hgk
    clear hgk
    by_cases hlt : k < 4
    · have hcell := HD2.out.cell (k := p + k) (by omega)
      obtain ⟨z, hz⟩ : ∃ z, z = zs.getD (p + k) 0 := ⟨_, rfl⟩
      rw [← hz] at hcell
      have HZ := hide hz
      clear hz
      obtain ⟨T, hT⟩ : ∃ T, T = allTo zs p k := ⟨_, rfl⟩
      rw [← hT]
      have HT := hide hT
      clear hT
      by_cases hs : (hv z).isSome = true
      · go_wp2_with (go_at_call 19; refine (hexClass_any _ _).mono ?_; rintro e w' ⟨rfl, rfl⟩)
        go_roundg (4 - (k + 1))
        case measure => rw [HG.out]; omega
        case rel => exact ⟨k + 1, rfl, by omega, by go_num, by rw [allTo, ← HT.out, digAt, ← HZ.out, hs, Bool.and_true], rfl⟩
      · have hs' : (hv z).isSome = false := by simpa using hs
        clear hs
        go_wp2_with (go_at_call 19; refine (hexClass_any _ _).mono ?_; rintro e w' ⟨rfl, rfl⟩)
        go_roundg (4 - (k + 1))
        case measure => rw [HG.out]; omega
        case rel => exact ⟨k + 1, rfl, by omega, by go_num, by rw [allTo, ← HT.out, digAt, ← HZ.out, hs', Bool.and_false], rfl⟩
    · obtain rfl : k = 4 := by omega
      rw [allTo_four, ← HBB.out]
      cases B
      · obtain rfl : V = 0 := by rw [HV.out, hexVal, ← HBB.out]; rfl
        go_wp2
        go_ret
        exact ⟨rfl, HB2.out⟩
      · have hV2 : decide (V < 0) = false := by simp; omega
        have hV3 : decide (65535 < V) = false := by simp; omega
        go_wp2
        rw [show ((4 : Nat) : Int) = 4 from rfl]
        go_loopg [11] 4 (fun n t wr => ∃ k : Nat, n = 4 - k ∧ k ≤ 4 ∧ t = .int .i64 k ∧ Data w1.heap.size wr (some ⟨w.heap.size, 0, none⟩) zs ∧ Below w.heap.size w wr)
        case atStart => exact ⟨0, rfl, by omega, rfl, HD2.out, HB2.out⟩
        case round =>
          obtain ⟨k, hgk, hk, rfl, hd3, hb3⟩ := hrel
          have HG2 := hide hgk
          have HD3 := hide hd3
          have HB3 := hide hb3
          clear hgk hd3 hb3 HD2 HB2
          by_cases hlt2 : k < 4
          · have hcell := HD3.out.cell (k := p + k) (by omega)
            have hzr := HZR.out (p + k)
            obtain ⟨z, hz⟩ : ∃ z, z = zs.getD (p + k) 0 := ⟨_, rfl⟩
            rw [← hz] at hcell hzr
            obtain ⟨hz0, hz1⟩ := hzr
            have HZ := hide hz
            clear hz
            obtain ⟨L, hL⟩ : ∃ L, L = lowB z := ⟨_, rfl⟩
            have HL := hide hL
            clear hL
            have HK := hide (key HV.out HBB.out hlt2 HZ.out HL.out)
            have HLA : Hid (∀ w, Calls Trym.prog 20 #[.int .u8 z] w fun e w' => e = .returned (.int .u8 L) ∧ w' = w) := fun w => by rw [HL.out]; exact same_turn (lowerASCII_any z w hz0 hz1)
            have hpi : (p : Int) < (zs.length : Int) := by omega
            obtain rfl | rfl | rfl | rfl : k = 0 ∨ k = 1 ∨ k = 2 ∨ k = 3 := by omega
            rw [Nat.add_zero] at hcell
            all_goals
              go_wp2
              go_quiet (first | (go_at_call 16; exact Calls.quiet_of_same (digit_call _ _ _ _ _ (by omega) (by omega) HK.out (by simp [nib]))) | (go_at_call 20; exact Calls.quiet_of_same (HLA.out _)))
              go_wp2
            · go_roundg (4 - 1)
              case measure => rw [HG2.out]; omega
              case rel => exact ⟨1, rfl, by omega, by first | rfl | go_num, HD3.out.drewN _, below_drewN HB3.out _⟩
            · go_roundg (4 - 2)
              case measure => rw [HG2.out]; omega
              case rel => exact ⟨2, rfl, by omega, by first | rfl | go_num, HD3.out.drewN _, below_drewN HB3.out _⟩
            · go_roundg (4 - 3)
              case measure => rw [HG2.out]; omega
              case rel => exact ⟨3, rfl, by omega, by first | rfl | go_num, HD3.out.drewN _, below_drewN HB3.out _⟩
            · go_roundg (4 - 4)
              case measure => rw [HG2.out]; omega
              case rel => exact ⟨4, rfl, by omega, by first | rfl | go_num, HD3.out.drewN _, below_drewN HB3.out _⟩
          · obtain rfl : k = 4 := by omega
            go_wp2
            go_ret
            exact ⟨rfl, HB3.out⟩

end Go.Proofs.Qxb6000362aMods
