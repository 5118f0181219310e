/-
  The walk of FnForgetKeepsExactlyLive.
-/
import Derived.Test.Qxb6000937aModsZZForget
namespace Go.Proofs.Qxb6000937aMods
open Go.RowKit
set_option linter.unusedSimpArgs false
set_option linter.unusedVariables false

theorem live_long (a : Option Addr) (len cap : Nat) (x y z : Int) (w : World) (h : 1048576 < len) :
    Calls Trym.prog 6 #[.slice a len cap, .int .i64 x, .int .i64 y, .int .i64 z] w fun e w' => e = .returned (.bool true) ∧ Below w.heap.size w w' := by
  go_enter Trym.func6, Trym.ntmps6
  go_wp2_with (go_at_call 15; refine (zz15_no _ _ _ _ _ _ _ h).mono ?_; rintro e w' ⟨rfl, rfl⟩)
  go_ret
  exact ⟨rfl, Below.refl _ _⟩
theorem live_over (a : Option Addr) (len cap : Nat) (x y z : Int) (w : World) (h : len ≤ 1048576) (h2 : 65536 < len) :
    Calls Trym.prog 6 #[.slice a len cap, .int .i64 x, .int .i64 y, .int .i64 z] w fun e w' => e = .returned (.bool true) ∧ Below w.heap.size w w' := by
  go_enter Trym.func6, Trym.ntmps6
  go_wp2_with (go_at_call 15; refine (zz15_yes _ _ _ _ _ _ _ h).mono ?_; rintro e w' ⟨rfl, rfl⟩)
  go_ret
  exact ⟨rfl, Below.refl _ _⟩

set_option maxHeartbeats 1000000 in
theorem live_out (a : Option Addr) (len cap : Nat) (x y z : Int) (w : World) (h : len ≤ 65536)
    (h2 : x < 0 ∨ 1152921504606846976 < x ∨ y < 0 ∨ 1152921504606846976 < y ∨ z < -1152921504606846976 ∨ 1152921504606846976 < z) :
    Calls Trym.prog 6 #[.slice a len cap, .int .i64 x, .int .i64 y, .int .i64 z] w fun e w' => e = .returned (.bool true) ∧ Below w.heap.size w w' := by
  by_cases k1 : x < 0
  · clear h2
    go_enter Trym.func6, Trym.ntmps6
    go_wp2_with (go_at_call 15; refine (zz15_yes _ _ _ _ _ _ _ (by omega)).mono ?_; rintro e w' ⟨rfl, rfl⟩)
    go_ret
    exact ⟨rfl, Below.refl _ _⟩
  · have e1 : decide (x < 0) = false := by simpa using k1
    by_cases k2 : 1152921504606846976 < x
    · clear h2
      go_enter Trym.func6, Trym.ntmps6
      go_wp2_with (go_at_call 15; refine (zz15_yes _ _ _ _ _ _ _ (by omega)).mono ?_; rintro e w' ⟨rfl, rfl⟩)
      go_ret
      exact ⟨rfl, Below.refl _ _⟩
    · have e2 : decide (1152921504606846976 < x) = false := by simpa using k2
      by_cases k3 : y < 0
      · clear h2
        go_enter Trym.func6, Trym.ntmps6
        go_wp2_with (go_at_call 15; refine (zz15_yes _ _ _ _ _ _ _ (by omega)).mono ?_; rintro e w' ⟨rfl, rfl⟩)
        go_ret
        exact ⟨rfl, Below.refl _ _⟩
      · have e3 : decide (y < 0) = false := by simpa using k3
        by_cases k4 : 1152921504606846976 < y
        · clear h2
          go_enter Trym.func6, Trym.ntmps6
          go_wp2_with (go_at_call 15; refine (zz15_yes _ _ _ _ _ _ _ (by omega)).mono ?_; rintro e w' ⟨rfl, rfl⟩)
          go_ret
          exact ⟨rfl, Below.refl _ _⟩
        · have e4 : decide (1152921504606846976 < y) = false := by simpa using k4
          by_cases k5 : z < -1152921504606846976
          · clear h2
            go_enter Trym.func6, Trym.ntmps6
            go_wp2_with (go_at_call 15; refine (zz15_yes _ _ _ _ _ _ _ (by omega)).mono ?_; rintro e w' ⟨rfl, rfl⟩)
            go_ret
            exact ⟨rfl, Below.refl _ _⟩
          · have e5 : decide (z < -1152921504606846976) = false := by simpa using k5
            have k6 : 1152921504606846976 < z := by omega
            clear h2
            go_enter Trym.func6, Trym.ntmps6
            go_wp2_with (go_at_call 15; refine (zz15_yes _ _ _ _ _ _ _ (by omega)).mono ?_; rintro e w' ⟨rfl, rfl⟩)
            go_ret
            exact ⟨rfl, Below.refl _ _⟩

theorem Src0.later {k : IntKind} {w w' : World} {ao : Option Addr} {ys : List Int} (h : Src0 k w ao ys) (hb : Below w.heap.size w w') : Src0 k w' ao ys := by
  intro i hi
  obtain ⟨b, off, h1, h2, h3⟩ := h i hi
  exact ⟨b, off, h1, by have := hb.size; omega, by rw [hb.cell (by exact h2)]; exact h3⟩

theorem rng_next {zs : List Int} {k : Nat} {z : Int} (h : ∀ j, j < k → -1152921504606846976 ≤ zs.getD j 0 ∧ zs.getD j 0 ≤ 1152921504606846976) (hz : z = zs.getD k 0) (h1 : -1152921504606846976 ≤ z) (h2 : z ≤ 1152921504606846976) :
    ∀ j, j < k + 1 → -1152921504606846976 ≤ zs.getD j 0 ∧ zs.getD j 0 ≤ 1152921504606846976 := by
  intro j hj
  by_cases e : j < k
  · exact h j e
  · obtain rfl : j = k := by omega
    rw [← hz]; exact ⟨h1, h2⟩
theorem asc_next {zs : List Int} {k : Nat} {z y : Int} (h : ∀ j, 0 < j → j < k + 1 → zs.getD (j - 1) 0 ≤ zs.getD j 0) (hz : z = zs.getD (k + 1) 0) (hy : y = zs.getD k 0) (hzy : y ≤ z) :
    ∀ j, 0 < j → j < k + 1 + 1 → zs.getD (j - 1) 0 ≤ zs.getD j 0 := by
  intro j h0 hj
  by_cases e : j < k + 1
  · exact h j h0 e
  · obtain rfl : j = k + 1 := by omega
    rw [← hz, show k + 1 - 1 = k from rfl, ← hy]; exact hzy
/-- In an ascending list what stands later is no less. -/
theorem asc_le {zs : List Int} {n : Nat} (h : ∀ j, 0 < j → j < n → zs.getD (j - 1) 0 ≤ zs.getD j 0) (i : Nat) : ∀ d, i + d < n → zs.getD i 0 ≤ zs.getD (i + d) 0
  | 0, _ => Int.le_refl _
  | d + 1, hd => Int.le_trans (asc_le h i d (by omega)) (by have := h (i + (d + 1)) (by omega) hd; rwa [show i + (d + 1) - 1 = i + d by omega] at this)

theorem dead_le {win sl mic z : Int} (h : dead win sl mic z = true) : z + sl + win ≤ mic := by simpa [dead] using h
theorem dead_gt {win sl mic z y : Int} (h : dead win sl mic z = false) (hzy : z ≤ y) : mic < y + sl + win := by
  have : mic < z + sl + win := by simpa [dead] using h
  omega
theorem Data.cell {kd : IntKind} {B : Nat} {w : World} {g : Nat} {zs : List Int} (h : Data kd B w (some ⟨g, 0, none⟩) zs) {k : Nat} (hk : k < zs.length) : w.cell? ⟨g, k, none⟩ = some (.int kd (zs.getD k 0)) := by
  obtain ⟨g', e, _, hc⟩ := h k hk
  simp only [Option.some.injEq, Addr.mk.injEq, and_true] at e
  subst e
  exact hc
theorem live_n {B : Nat} {w : World} {s2 n i0 k t : Nat} (h : Data .i64 B w (some ⟨s2, 0, none⟩) ((idx n).drop i0)) (hk : i0 + k = t) (ht : t < n) : w.cell? ⟨s2, k, none⟩ = some (.int .i64 t) := by
  rw [h.cell (by rw [List.length_drop, idx_len]; omega), drop_at, hk, idx_at ht]
theorem live_s {B : Nat} {w : World} {s1 i0 k t : Nat} {zs : List Int} (h : Data .i64 B w (some ⟨s1, 0, none⟩) (zs.drop i0)) (hk : i0 + k = t) (ht : t < zs.length) : w.cell? ⟨s1, k, none⟩ = some (.int .i64 (zs.getD t 0)) := by
  rw [h.cell (by rw [List.length_drop]; omega), drop_at, hk]

set_option maxRecDepth 100000 in
set_option maxHeartbeats 1000000 in
theorem live_walk (a : Option Addr) (cap : Nat) (win sl mic : Int) (zs : List Int) (w : World) (hm : zs.length ≤ 65536) (S : Hid (Src0 .i64 w a zs)) (hn : Hid (a = none → zs = [] ∧ cap = 0))
    (hw1 : 0 ≤ win) (hw2 : win ≤ 1152921504606846976) (hs1 : 0 ≤ sl) (hs2 : sl ≤ 1152921504606846976) (hm1 : -1152921504606846976 ≤ mic) (hm2 : mic ≤ 1152921504606846976) :
    Calls Trym.prog 6 #[.slice a zs.length cap, .int .i64 win, .int .i64 sl, .int .i64 mic] w fun e w' => e = .returned (.bool true) ∧ Below w.heap.size w w' := by
  have e0 : decide ((65536 : Int) < (zs.length : Int)) = false := by simp; omega
  have e1 : decide (win < 0) = false := by simp; omega
  have e2 : decide (1152921504606846976 < win) = false := by simp; omega
  have e3 : decide (sl < 0) = false := by simp; omega
  have e4 : decide (1152921504606846976 < sl) = false := by simp; omega
  have e5 : decide (mic < -1152921504606846976) = false := by simp; omega
  have e6 : decide (1152921504606846976 < mic) = false := by simp; omega
  go_enter Trym.func6, Trym.ntmps6
  go_wp2_with (go_at_call 15; refine (zz15_yes _ _ _ _ _ _ _ (by omega)).mono ?_; rintro e w' ⟨rfl, rfl⟩)
  go_loopg [9] zs.length (fun q t wr => ∃ k : Nat, q = zs.length - k ∧ k ≤ zs.length ∧ t = .int .i64 k ∧ (∀ j, j < k → -1152921504606846976 ≤ zs.getD j 0 ∧ zs.getD j 0 ≤ 1152921504606846976) ∧ (∀ j, 0 < j → j < k → zs.getD (j - 1) 0 ≤ zs.getD j 0) ∧ Below w.heap.size w wr)
  case atStart => exact ⟨0, rfl, by omega, rfl, fun j h => by omega, fun j _ h => by omega, Below.refl _ _⟩
  case round =>
    obtain ⟨k, hgk, hk, rfl, hr, ha, hb⟩ := hrel
    have HG := hide hgk
    have HR := hide hr
    have HA := hide ha
    have HB := hide hb
    clear hgk hr ha hb
    by_cases hlt : k < zs.length
    · obtain ⟨b, off, rfl, hbl, hc⟩ := S.out k hlt
      have hk1 : (k : Int) < (zs.length : Int) := by omega
      have hcell : wr.cell? ⟨b, off + k, none⟩ = some (.int .i64 (zs.getD k 0)) := by rw [HB.out.cell (by exact hbl)]; exact hc
      clear hc
      obtain ⟨z, hz⟩ : ∃ z, z = zs.getD k 0 := ⟨_, rfl⟩
      rw [← hz] at hcell
      have HZ := hide hz
      clear hz
      by_cases k1 : z < -1152921504606846976
      · go_wp2
        go_ret
        exact ⟨rfl, HB.out⟩
      · have f1 : decide (z < -1152921504606846976) = false := by simpa using k1
        by_cases k2 : 1152921504606846976 < z
        · go_wp2
          go_ret
          exact ⟨rfl, HB.out⟩
        · have f2 : decide (1152921504606846976 < z) = false := by simpa using k2
          by_cases hk0 : k = 0
          · subst hk0
            rw [Nat.add_zero] at hcell
            go_wp2
            go_quiet (fail)
            go_wp2
            go_roundg (zs.length - (0 + 1))
            case measure => rw [HG.out]; omega
            case rel => exact ⟨0 + 1, rfl, by omega, by go_num, rng_next HR.out HZ.out (by omega) (by omega), fun j h1 h2 => by omega, below_drewN HB.out _⟩
          · obtain ⟨j, rfl⟩ : ∃ j, k = j + 1 := ⟨k - 1, by omega⟩
            obtain ⟨b', off', hbo, hbl', hc'⟩ := S.out j (by omega)
            obtain ⟨rfl, rfl⟩ : b' = b ∧ off' = off := by simp at hbo; exact ⟨hbo.1.symm, hbo.2.symm⟩
            have hcell' : wr.cell? ⟨b', off' + j, none⟩ = some (.int .i64 (zs.getD j 0)) := by rw [HB.out.cell (by exact hbl')]; exact hc'
            clear hc' hbo hk0
            have hj1 : (j : Int) < (zs.length : Int) := by omega
            have hpos : (0 : Int) < ((j + 1 : Nat) : Int) := by omega
            obtain ⟨y, hy⟩ : ∃ y, y = zs.getD j 0 := ⟨_, rfl⟩
            rw [← hy] at hcell'
            have HY := hide hy
            clear hy
            by_cases hzy : z < y
            · go_wp2
              go_quiet (fail)
              go_wp2
              go_ret
              exact ⟨rfl, below_drewN HB.out _⟩
            · have hzy' : decide (z < y) = false := by simpa using hzy
              go_wp2
              go_quiet (fail)
              go_wp2
              go_roundg (zs.length - (j + 1 + 1))
              case measure => rw [HG.out]; omega
              case rel => exact ⟨j + 1 + 1, rfl, by omega, by go_num, rng_next HR.out HZ.out (by omega) (by omega), asc_next HA.out HZ.out HY.out (by omega), below_drewN HB.out _⟩
    · obtain rfl : k = zs.length := by omega
      have HZR : Hid (∀ i, i < zs.length → -lim ≤ zs.getD i 0 ∧ zs.getD i 0 ≤ lim) := HR.out
      have HCl := hide (clone64_any a cap wr zs (S.out.later HB.out) (by omega) hn.out)
      clear HR hlt
      go_wp2_with (first | (go_at_call 16; refine HCl.out.mono ?_; rintro e w1 ⟨a', c', rfl, hb1, hd1⟩; have HB1 := hide (HB.out.trans (hb1.mono HB.out.size)); have HD1 := hide hd1; clear hb1 hd1) | (go_at_call 17; refine (indexList_any zs.length w1 (by omega)).mono ?_; rintro e w2 ⟨rfl, hb2, hd2⟩; have HB2 := hide hb2; have HD2 := hide hd2; clear hb2 hd2))
      have HB3 := hide (HB1.out.trans (HB2.out.mono HB1.out.size))
      have HD3 := hide ((HD1.out.below HB2.out).mono HB2.out.size)
      obtain ⟨q, hq⟩ : ∃ q, q = w1.heap.size := ⟨_, rfl⟩
      rw [← hq] at HD2 ⊢
      clear hq HB1 HB2 HD1 HCl HB
      refine (ZZForget_any w2 a' (some ⟨q, 0, none⟩) c' zs.length win sl mic zs (idx zs.length) (idx_len _) HD3 HD2 hm hw1 (by unfold lim; exact hw2) hs1 (by unfold lim; exact hs2) HZR).mono ?_
      rintro e w3 ⟨i0, s1, s2, rfl, hi0, hdd, hal, hd4, hd5, hb4⟩
      have HB5 := hide (HB3.out.trans (hb4.mono HB3.out.size))
      have HD5 := hide ((HD3.out.below hb4).mono hb4.size)
      have HDS := hide hd4
      have HDN := hide hd5
      have HDD := hide hdd
      have HAL := hide hal
      clear hdd hal hd4 hd5 hb4 HB3 HD2 HD3
      obtain ⟨m, hm0⟩ : ∃ m, m = zs.length - i0 := ⟨_, rfl⟩
      rw [← hm0]
      have HM := hide hm0
      have hmn : m ≤ zs.length := by omega
      clear hm0
      obtain ⟨B, hB⟩ : ∃ B, B = w3.heap.size := ⟨_, rfl⟩
      rw [← hB] at HD5 HDS HDN
      clear hB
      go_wp2
      go_loopg [13, 14] zs.length (fun q kv tv wr => ∃ t k : Nat, q = zs.length - t ∧ t ≤ zs.length ∧ k = t - i0 ∧ kv = .int .i64 k ∧ tv = .int .i64 t ∧ Data .i64 B wr a' zs ∧ Data .i64 B wr (some ⟨s1, 0, none⟩) (zs.drop i0) ∧ Data .i64 B wr (some ⟨s2, 0, none⟩) ((idx zs.length).drop i0) ∧ Below w.heap.size w wr)
      case atStart => exact ⟨0, 0, rfl, by omega, by omega, rfl, rfl, HD5.out, HDS.out, HDN.out, HB5.out⟩
      case round =>
        obtain ⟨t, k, hgk, ht, hkt, rfl, rfl, hd6, hd7, hd8, hb6⟩ := hrel
        have HG2 := hide hgk
        have HK := hide hkt
        have HD6 := hide hd6
        have HD7 := hide hd7
        have HD8 := hide hd8
        have HB6 := hide hb6
        have hkl : k ≤ 65536 := by omega
        clear hgk hkt hd6 hd7 hd8 hb6 HD5 HDS HDN HB5
        by_cases hlt : t < zs.length
        · obtain ⟨g, rfl, _, hc⟩ := HD6.out t hlt
          have hzr := HZR.out t hlt
          unfold lim at hzr
          have ht1 : (t : Int) < (zs.length : Int) := by omega
          by_cases hti : t < i0
          · have hdt := dead_le (HDD.out t hti)
            obtain ⟨z, hz⟩ : ∃ z, z = zs.getD t 0 := ⟨_, rfl⟩
            rw [← hz] at hc hzr hdt
            obtain ⟨hz1, hz2⟩ := hzr
            have hdd' : decide (mic < z + sl + win) = false := by simp; omega
            clear hz
            go_wp2
            go_roundg (zs.length - (t + 1))
            case measure => rw [HG2.out]; omega
            case rel => exact ⟨t + 1, k, rfl, by omega, by have := HK.out; omega, rfl, by go_num, HD6.out, HD7.out, HD8.out, HB6.out⟩
          · have hal := dead_gt (HAL.out (by omega)) (show zs.getD i0 0 ≤ zs.getD t 0 by have := asc_le HA.out i0 (t - i0) (by omega); rwa [show i0 + (t - i0) = t by omega] at this)
            have hkm : k < m := by have := HK.out; have := HM.out; omega
            have x1 := live_n HD8.out (show i0 + k = t by have := HK.out; omega) hlt
            have x2 := live_s HD7.out (show i0 + k = t by have := HK.out; omega) hlt
            obtain ⟨z, hz⟩ : ∃ z, z = zs.getD t 0 := ⟨_, rfl⟩
            rw [← hz] at hc hzr hal x2
            obtain ⟨hz1, hz2⟩ := hzr
            have hk1 : (k : Int) < (m : Int) := by omega
            clear hz
            go_wp2
            go_quiet (fail)
            go_wp2
            go_roundg (zs.length - (t + 1))
            case measure => rw [HG2.out]; omega
            case rel => exact ⟨t + 1, k + 1, rfl, by omega, by have := HK.out; omega, by go_num, by go_num, HD6.out.drewN _, HD7.out.drewN _, HD8.out.drewN _, below_drewN HB6.out _⟩
        · obtain rfl : k = m := by have := HK.out; have := HM.out; omega
          go_wp2
          go_ret
          exact ⟨by simp, HB6.out⟩

end Go.Proofs.Qxb6000937aMods
