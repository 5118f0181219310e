/-
  The walk of FnHex4ReadsWhatIsWritten.
-/
import Derived.Test.Qxb6000362aModsHex
import Derived.Test.Qxb6000362aModsOwn
namespace Go.Proofs.Qxb6000362aMods
open Go.RowKit
set_option linter.unusedSimpArgs false
set_option linter.unusedVariables false

/-- The byte that writes the digit d. -/
def hexB (d : Int) (u : Bool) : Int := if d < 10 then 48 + d else if u then 55 + d else 87 + d

theorem hexDigitOf_any (d : Int) (u : Bool) (w : World) (h0 : 0 ≤ d) (h1 : d ≤ 15) :
    Calls Trym.prog 16 #[.int .i64 d, .bool u] w fun e w' => e = .returned (.int .u8 (hexB d u)) ∧ w = w' := by
  by_cases h : d < 10
  · go_enter Trym.func16, Trym.ntmps16
    go_wp2
    go_ret
    exact ⟨by simp [hexB, h], rfl⟩
  · cases u
    · go_enter Trym.func16, Trym.ntmps16
      go_wp2
      go_ret
      exact ⟨by simp [hexB, h]; omega, rfl⟩
    · go_enter Trym.func16, Trym.ntmps16
      go_wp2
      go_ret
      exact ⟨by simp [hexB, h]; omega, rfl⟩

theorem wraps_i64 (n : Int) (h₀ : 0 ≤ n) (h₁ : n < 2 ^ 63) : IntKind.i64.wrap n = n := by rw [IntKind.wrap_i64]; omega
theorem and15 (x : Int) (h0 : 0 ≤ x) (h1 : x ≤ 4294967295) : bits .and .i64 x 15 = x % 16 := bits_mask .i64 63 (by decide) wraps_i64 4 (by decide) x h0 (by omega)
theorem hexDigitOf_bits (x : Int) (u : Bool) (w : World) (h0 : 0 ≤ x) (h1 : x ≤ 4294967295) :
    Calls Trym.prog 16 #[.int .i64 (bits .and .i64 x 15), .bool u] w fun e w' => e = .returned (.int .u8 (hexB (x % 16) u)) ∧ w = w' := by
  rw [and15 x h0 h1]
  exact hexDigitOf_any _ u w (by omega) (by omega)

theorem zz15_yes (a a' : Option Addr) (len cap len' cap' : Nat) (v m : Int) (w : World) (h : len + len' ≤ 1048576) :
    Calls Trym.prog 15 #[.slice a len cap, .int .u16 v, .int .u8 m, .slice a' len' cap'] w fun e w' => e = .returned (.bool true) ∧ w = w' := by
  go_enter Trym.func15, Trym.ntmps15
  go_wp2
  go_ret
  exact ⟨rfl, rfl⟩
theorem zz15_no (a a' : Option Addr) (len cap len' cap' : Nat) (v m : Int) (w : World) (h : 1048576 < len + len') :
    Calls Trym.prog 15 #[.slice a len cap, .int .u16 v, .int .u8 m, .slice a' len' cap'] w fun e w' => e = .returned (.bool false) ∧ w = w' := by
  by_cases h1 : 1048576 < len
  · go_enter Trym.func15, Trym.ntmps15
    go_wp2
    go_ret
    exact ⟨rfl, rfl⟩
  · by_cases h2 : 1048576 < len'
    · go_enter Trym.func15, Trym.ntmps15
      go_wp2
      go_ret
      exact ⟨rfl, rfl⟩
    · go_enter Trym.func15, Trym.ntmps15
      go_wp2
      go_ret
      exact ⟨rfl, rfl⟩

theorem ZZHex4_in (w : World) (cap g p : Nat) (zs : List Int) (hd : Data w.heap.size w (some ⟨g, 0, none⟩) zs) (hm : zs.length ≤ 1048592) (hcap : zs.length ≤ cap) (hcm : cap ≤ maxLen) (hp : p + 4 ≤ zs.length) :
    Calls Trym.prog 17 #[.slice (some ⟨g, 0, none⟩) zs.length cap, .int .i64 p] w fun e w' => e = .returned (.tuple #[.int .i32 (hexVal zs p), .bool (hexAll zs p)]) ∧ Below w.heap.size w w' := by
  have hA := hide (At.fresh w (some ⟨g, 0, none⟩) zs.length cap 0 (.slice none 0 0) (.slice none 0 0) (.int .i64 0))
  go_enter Trym.func17, Trym.ntmps17
  go_wp2_with fail
  refine (hex4_in _ w.heap.size cap g p zs hA.out.c0 (fun k hk => (hd.below hA.out.bel).cell hk) hm hcap hcm hp).mono ?_
  rintro e w' ⟨rfl, rfl⟩
  go_wp2
  go_ret2
  exact ⟨rfl, hA.out.bel⟩

theorem ZZHex4_at (w : World) (cap g p n : Nat) (zs : List Int) (hn : zs.length = n) (hd : Data w.heap.size w (some ⟨g, 0, none⟩) zs) (hm : n ≤ 1048592) (hcap : n ≤ cap) (hcm : cap ≤ maxLen) (hp : p + 4 ≤ n) :
    Calls Trym.prog 17 #[.slice (some ⟨g, 0, none⟩) n cap, .int .i64 p] w fun e w' => e = .returned (.tuple #[.int .i32 (hexVal zs p), .bool (hexAll zs p)]) ∧ Below w.heap.size w w' := by
  subst hn
  exact ZZHex4_in w cap g p zs hd hm hcap hcm hp

theorem hexreads_long (a a' : Option Addr) (len cap len' cap' : Nat) (v m : Int) (w : World) (h : 1048576 < len + len') :
    Calls Trym.prog 6 #[.slice a len cap, .int .u16 v, .int .u8 m, .slice a' len' cap'] w fun e w' => e = .returned (.bool true) ∧ Below w.heap.size w w' := by
  go_enter Trym.func6, Trym.ntmps6
  go_wp2_with (go_at_call 15; refine (zz15_no _ _ _ _ _ _ _ _ _ h).mono ?_; rintro e w' ⟨rfl, rfl⟩)
  go_ret
  exact ⟨rfl, Below.refl _ _⟩

/-- The k-th hexadecimal digit of a 16-bit value, the highest first. -/
def nib (v : Int) : Nat → Int
  | 0 => v / 4096 % 16
  | 1 => v / 256 % 16
  | 2 => v / 16 % 16
  | _ => v % 16

theorem hv_hexB (d : Int) (u : Bool) (h0 : 0 ≤ d) (h1 : d ≤ 15) : hv (hexB d u) = some d := by
  unfold hexB hv dg
  by_cases h : d < 10
  · rw [if_pos h, if_pos (by simp; omega)]
    congr 1; omega
  · rw [if_neg h]
    cases u
    · show (if (decide (48 ≤ 87 + d) && decide (87 + d ≤ 57)) = true then some (87 + d - 48) else if 97 ≤ 87 + d ∧ 87 + d ≤ 102 then some (87 + d - 87) else if 65 ≤ 87 + d ∧ 87 + d ≤ 70 then some (87 + d - 55) else none) = some d
      rw [if_neg (by simp; omega), if_pos (by omega)]
      congr 1; omega
    · rw [if_pos rfl, if_neg (by simp; omega), if_neg (by omega), if_pos (by omega)]
      congr 1; omega
theorem nib_range (v : Int) (j : Nat) : 0 ≤ nib v j ∧ nib v j ≤ 15 := by
  unfold nib
  split <;> omega
theorem nib_acc (v : Int) (h0 : 0 ≤ v) (h1 : v ≤ 65535) : acc (nib v) 4 = v := by
  simp only [acc, nib]
  omega
theorem acc_congr {f g : Nat → Int} (k : Nat) (h : ∀ j, j < k → f j = g j) : acc f k = acc g k := by
  induction k with
  | zero => rfl
  | succ k ih => simp only [acc]; rw [ih (fun j hj => h j (by omega)), h k (by omega)]
theorem hr_dig {v : Int} {ps ds qs : List Int} {len : Nat} (hp : ps.length = len) (hd : ds.length = 4) (hdj : ∀ j, j < 4 → ∃ u, ds.getD j 0 = hexB (nib v j) u) (j : Nat) (hj : j < 4) :
    digAt (ps ++ ds ++ qs) len j = some (nib v j) := by
  obtain ⟨u, hu⟩ := hdj j hj
  have e : (ps ++ ds ++ qs).getD (len + j) 0 = ds.getD j 0 := by
    rw [List.append_assoc, List.getD, List.getElem?_append_right (by omega), List.getElem?_append_left (by omega), List.getD]
    congr 2; omega
  unfold digAt
  rw [e, hu]
  exact hv_hexB _ u (nib_range v j).1 (nib_range v j).2
theorem hr_all {v : Int} {ps ds qs : List Int} {len : Nat} (hp : ps.length = len) (hd : ds.length = 4) (hdj : ∀ j, j < 4 → ∃ u, ds.getD j 0 = hexB (nib v j) u) :
    hexAll (ps ++ ds ++ qs) len = true := by
  rw [hexAll, hr_dig hp hd hdj 0 (by omega), hr_dig hp hd hdj 1 (by omega), hr_dig hp hd hdj 2 (by omega), hr_dig hp hd hdj 3 (by omega)]; rfl
theorem hr_val {v : Int} {ps ds qs : List Int} {len : Nat} (hp : ps.length = len) (hd : ds.length = 4) (hdj : ∀ j, j < 4 → ∃ u, ds.getD j 0 = hexB (nib v j) u) (h0 : 0 ≤ v) (h1 : v ≤ 65535) :
    hexVal (ps ++ ds ++ qs) len = v := by
  have e : acc (valAt (ps ++ ds ++ qs) len) 4 = acc (nib v) 4 := acc_congr 4 fun j hj => by rw [valAt, hr_dig hp hd hdj j hj]; rfl
  rw [hexVal, hr_all hp hd hdj, if_pos rfl, e, nib_acc v h0 h1]

theorem hr_next {w w3 : World} {g cap len k n : Nat} {ps ds : List Int} {v z : Int} (hO : Own w g cap n (ps ++ ds ++ [z]) w3) (hn : n = len + (k + 1)) (hds : ds.length = k)
    (hdj : ∀ j, j < k → ∃ u, ds.getD j 0 = hexB (nib v j) u) (hz : ∃ u, z = hexB (nib v k) u) :
    ∃ ds' : List Int, ds'.length = k + 1 ∧ (∀ j, j < k + 1 → ∃ u, ds'.getD j 0 = hexB (nib v j) u) ∧ Own w g cap (len + (k + 1)) (ps ++ ds') w3 := by
  subst hn
  refine ⟨ds ++ [z], by simp [hds], ?_, by rw [← List.append_assoc]; exact hO⟩
  intro j hj
  by_cases h : j < k
  · obtain ⟨u, hu⟩ := hdj j h
    refine ⟨u, ?_⟩
    rw [← hu]
    simp [List.getD, List.getElem?_append, hds, h]
  · obtain rfl : j = k := by omega
    obtain ⟨u, hu⟩ := hz
    refine ⟨u, ?_⟩
    simp [List.getD, List.getElem?_append, hds, hu]

set_option maxHeartbeats 1000000 in
theorem hexreads_walk (a a' : Option Addr) (len cap len' cap' : Nat) (v m : Int) (ps qs : List Int) (w : World) (h : len + len' ≤ 1048576) (S : Hid (Src0 w a len cap ps)) (S' : Hid (Src0 w a' len' cap' qs))
    (hv0 : 0 ≤ v) (hv1 : v ≤ 65535) (hm0 : 0 ≤ m) (hm1 : m ≤ 255) :
    Calls Trym.prog 6 #[.slice a len cap, .int .u16 v, .int .u8 m, .slice a' len' cap'] w fun e w' => e = .returned (.bool true) ∧ Below w.heap.size w w' := by
  have d1 : decide ((1048576 : Int) < (len : Int)) = false := by simp; omega
  have d2 : decide ((1048576 : Int) < (len' : Int)) = false := by simp; omega
  have d3 : decide ((1048576 : Int) < (len : Int) + (len' : Int)) = false := by simp; omega
  go_enter Trym.func6, Trym.ntmps6
  go_wp2_with (first | (go_at_call 15; refine (zz15_yes _ _ _ _ _ _ _ _ _ h).mono ?_; rintro e w' ⟨rfl, rfl⟩) | (at_make; refine wpList_room rfl (.const (.int .i64 0)) (.tmp 41) rfl _ (len + 4 + len') rfl rfl (by omega) (by omega) ?_; intro w1 H1) | (at_builtin; refine wpList_add rfl (.tmp 43) (.tmp 44) rfl w w.heap.size (len + 4 + len') 0 [] a len cap ps rfl rfl H1 S (by omega) ?_; rw [Nat.zero_add, List.nil_append]; intro w2 H2))
  go_loopg [9, 10] 4 (fun n d t wr => ∃ k : Nat, n = 4 - k ∧ k ≤ 4 ∧ t = .int .i64 k ∧ d = .slice (some ⟨w.heap.size, 0, none⟩) (len + k) (len + 4 + len') ∧
      ∃ ds : List Int, ds.length = k ∧ (∀ j, j < k → ∃ u, ds.getD j 0 = hexB (nib v j) u) ∧ Own w w.heap.size (len + 4 + len') (len + k) (ps ++ ds) wr)
  case atStart => exact ⟨0, rfl, by omega, rfl, rfl, [], rfl, fun j h => by omega, by rw [List.append_nil]; exact H2.out⟩
  case round =>
    obtain ⟨k, hgk, hk, rfl, rfl, ds, hds, hdj, hO⟩ := hrel
    have HG := hide hgk
    have HDS := hide hds
    have HDJ := hide hdj
    have HO := hide hO
    clear hgk hds hdj hO H1 H2
    by_cases hlt : k < 4
    · obtain rfl | rfl | rfl | rfl : k = 0 ∨ k = 1 ∨ k = 2 ∨ k = 3 := by omega
      all_goals
        go_wp2_with (first | (go_at_call 16; refine (hexDigitOf_bits _ _ _ (by omega) (by omega)).mono ?_; rintro e w' ⟨rfl, rfl⟩) | (at_builtin; refine wpList_add1 rfl (.tmp 58) (.tmp 67) rfl w w.heap.size (len + 4 + len') _ (ps ++ ds) _ rfl rfl HO (by omega) ?_; intro w3 H3))
      · go_roundg (4 - 1)
        case measure => rw [HG.out]; omega
        case rel => exact ⟨1, rfl, by omega, by first | rfl | go_num, rfl, hr_next (k := 0) H3.out (by omega) HDS.out HDJ.out ⟨_, rfl⟩⟩
      · go_roundg (4 - 2)
        case measure => rw [HG.out]; omega
        case rel => exact ⟨2, rfl, by omega, by first | rfl | go_num, rfl, hr_next (k := 1) H3.out (by omega) HDS.out HDJ.out ⟨_, rfl⟩⟩
      · go_roundg (4 - 3)
        case measure => rw [HG.out]; omega
        case rel => exact ⟨3, rfl, by omega, by first | rfl | go_num, rfl, hr_next (k := 2) H3.out (by omega) HDS.out HDJ.out ⟨_, rfl⟩⟩
      · go_roundg (4 - 4)
        case measure => rw [HG.out]; omega
        case rel => exact ⟨4, rfl, by omega, by first | rfl | go_num, rfl, hr_next (k := 3) H3.out (by omega) HDS.out HDJ.out ⟨_, rfl⟩⟩
    · obtain rfl : k = 4 := by omega
      go_wp2_with (at_builtin; refine wpList_add rfl (.tmp 69) (.tmp 70) rfl w w.heap.size (len + 4 + len') (len + 4) (ps ++ ds) a' len' cap' qs rfl rfl HO S' (by omega) ?_; intro w4 H4)
      have hz := ZZHex4_at w4 (len + 4 + len') w.heap.size len (len + 4 + len') (ps ++ ds ++ qs) H4.out.len H4.out.data (by omega) (Nat.le_refl _) (by unfold maxLen; omega) (by omega)
      rw [hr_val S.out.len HDS.out HDJ.out hv0 hv1, hr_all S.out.len HDS.out HDJ.out] at hz
      refine hz.mono ?_
      clear hz
      rintro e w5 ⟨rfl, hb⟩
      have HB := hide (H4.out.bel.trans (hb.mono H4.out.bel.size))
      clear hb
      go_wp2
      go_ret
      exact ⟨rfl, HB.out⟩

end Go.Proofs.Qxb6000362aMods
