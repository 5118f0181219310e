/-
  The walks of appendDigits and FnNumberReadsWhatIsWritten.
-/
import Derived.Test.Qxb6000362aModsWritten
import Derived.Test.Qxb6000362aModsOwn
import Derived.Test.Qxb6000362aModsNum
namespace Go.Proofs.Qxb6000362aMods
open Go.RowKit
set_option linter.unusedSimpArgs false
set_option linter.unusedVariables false

theorem Src0.at {w0 : World} {ao : Option Addr} {m c : Nat} {ys : List Int} (h : Src0 w0 ao m c ys) (hm : 0 < m) :
    ∃ b off, ao = some ⟨b, off, none⟩ ∧ b < w0.heap.size ∧ ∀ k, k < m → w0.cell? ⟨b, off + k, none⟩ = some (.int .u8 (ys.getD k 0)) := by
  rcases h with ⟨_, rfl, _, rfl⟩ | ⟨x, rfl, hl, hc⟩
  · omega
  · obtain ⟨b, off, spot⟩ := x
    have hspot : spot = none := by simpa [Addr.add] using World.cell?_spot (hc 0 hm)
    subst hspot
    refine ⟨b, off, rfl, World.block_lt_of_cell? w0 _ (hc 0 hm), fun k hk => ?_⟩
    rw [← Go.WideShapes.add_plain]
    exact hc k hk

theorem oneD_one {f : Bool} {ds : List Int} {z : Int} {m : Nat} (hz : z = ds.getD 0 0) (hf : f = true) (h0 : z % 10 = 0) (hl : ds.length = m) (h1 : 1 < m) : oneD f ds 0 = 49 := by
  unfold oneD
  rw [if_pos ⟨rfl, hf, by rw [← hz]; exact h0, by omega⟩]
theorem oneD_plain {f : Bool} {ds : List Int} {z : Int} {k m : Nat} (hz : z = ds.getD k 0) (hl : ds.length = m) (h : k ≠ 0 ∨ f = false ∨ z % 10 ≠ 0 ∨ ¬ 1 < m) : oneD f ds k = 48 + z % 10 := by
  unfold oneD
  rw [if_neg, ← hz]
  rintro ⟨h1, h2, h3, h4⟩
  rw [← hz] at h3
  rcases h with h | h | h | h
  · exact h h1
  · rw [h] at h2; cases h2
  · exact h h3
  · omega

set_option maxHeartbeats 1000000 in
theorem digits_written (w0 w : World) (g cap n : Nat) (xs : List Int) (ao : Option Addr) (m c : Nat) (ds : List Int) (f : Bool) (H : Hid (Own w0 g cap n xs w)) (S : Hid (Src0 w0 ao m c ds))
    (hr : ∀ k, 0 ≤ ds.getD k 0 ∧ ds.getD k 0 ≤ 255) (h0 : 0 < m) (hm : n + m ≤ 1048592) (hfit : n + m ≤ cap) :
    Calls Trym.prog 26 #[.slice (some ⟨g, 0, none⟩) n cap, .slice ao m c, .bool f] w fun e w' => e = .returned (.slice (some ⟨g, 0, none⟩) (n + m) cap) ∧ Own w0 g cap (n + m) (xs ++ wrTo f ds m) w' := by
  have HR := hide hr
  clear hr
  obtain ⟨b, off, rfl, hb, hc⟩ := S.out.at h0
  have HC := hide hc
  have HL := hide S.out.len
  clear hc
  have hm0 : ((m : Int) == 0) = false := by simp; omega
  go_enter Trym.func26, Trym.ntmps26
  go_wp2
  go_loopg [0, 7] m (fun q bv t wr => ∃ k : Nat, q = m - k ∧ k ≤ m ∧ t = .int .i64 k ∧ bv = .slice (some ⟨g, 0, none⟩) (n + k) cap ∧ Own w0 g cap (n + k) (xs ++ wrTo f ds k) wr)
  case atStart => exact ⟨0, rfl, by omega, rfl, rfl, by simpa [wrTo] using H.out⟩
  case round =>
    obtain ⟨k, hgk, hk, rfl, rfl, hO⟩ := hrel
    have HG := hide hgk
    have HO := hide hO
    clear hgk hO
    by_cases hlt : k < m
    · have hcell : wr.cell? ⟨b, off + k, none⟩ = some (.int .u8 (ds.getD k 0)) := by rw [HO.out.bel.cell (by exact hb)]; exact HC.out k hlt
      have hzr := HR.out k
      obtain ⟨z, hz⟩ : ∃ z, z = ds.getD k 0 := ⟨_, rfl⟩
      rw [← hz] at hcell hzr
      have HZ := hide hz
      clear hz
      obtain ⟨hz0, hz1⟩ := hzr
      by_cases hk0 : k = 0
      · subst hk0
        rw [Nat.add_zero] at hcell
        cases f
        · have HD := hide (oneD_plain (f := false) (m := m) HZ.out HL.out (.inr (.inl rfl)))
          go_wp2_with (at_builtin; refine wpList_add1 rfl (.tmp 40) (.tmp 43) rfl w0 g cap _ (xs ++ wrTo false ds 0) _ rfl rfl HO (by omega) ?_; intro w3 H3)
          go_roundg (m - (0 + 1))
          case measure => rw [HG.out]; omega
          case rel => exact ⟨0 + 1, rfl, by omega, by go_num, rfl, by rw [wrTo_succ, ← List.append_assoc, HD.out]; exact H3.out⟩
        · by_cases hd0 : z % 10 = 0
          · by_cases h1 : 1 < m
            · have HD := hide (oneD_one (f := true) (m := m) HZ.out rfl hd0 HL.out h1)
              have hd0' : (z % 10 == 0) = true := by simpa using hd0
              clear hd0
              go_wp2_with (at_builtin; refine wpList_add1 rfl (.tmp 40) (.tmp 43) rfl w0 g cap _ (xs ++ wrTo true ds 0) _ rfl rfl HO (by omega) ?_; intro w3 H3)
              go_roundg (m - (0 + 1))
              case measure => rw [HG.out]; omega
              case rel => exact ⟨0 + 1, rfl, by omega, by go_num, rfl, by rw [wrTo_succ, ← List.append_assoc, HD.out]; exact H3.out⟩
            · have HD := hide (oneD_plain (f := true) (m := m) HZ.out HL.out (.inr (.inr (.inr h1))))
              have hd0' : (z % 10 == 0) = true := by simpa using hd0
              have h1' : decide (1 < m) = false := by simpa using h1
              clear hd0
              go_wp2_with (at_builtin; refine wpList_add1 rfl (.tmp 40) (.tmp 43) rfl w0 g cap _ (xs ++ wrTo true ds 0) _ rfl rfl HO (by omega) ?_; intro w3 H3)
              go_roundg (m - (0 + 1))
              case measure => rw [HG.out]; omega
              case rel => exact ⟨0 + 1, rfl, by omega, by go_num, rfl, by rw [wrTo_succ, ← List.append_assoc, HD.out]; exact H3.out⟩
          · have HD := hide (oneD_plain (f := true) (m := m) HZ.out HL.out (.inr (.inr (.inl hd0))))
            have hd0' : (z % 10 == 0) = false := by simpa using hd0
            clear hd0
            go_wp2_with (at_builtin; refine wpList_add1 rfl (.tmp 40) (.tmp 43) rfl w0 g cap _ (xs ++ wrTo true ds 0) _ rfl rfl HO (by omega) ?_; intro w3 H3)
            go_roundg (m - (0 + 1))
            case measure => rw [HG.out]; omega
            case rel => exact ⟨0 + 1, rfl, by omega, by go_num, rfl, by rw [wrTo_succ, ← List.append_assoc, HD.out]; exact H3.out⟩
      · have HD := hide (oneD_plain (f := f) (m := m) HZ.out HL.out (.inl hk0))
        have hk0' : ((k : Int) == 0) = false := by simp; omega
        clear hk0
        go_wp2_with (at_builtin; refine wpList_add1 rfl (.tmp 40) (.tmp 43) rfl w0 g cap _ (xs ++ wrTo f ds k) _ rfl rfl HO (by omega) ?_; intro w3 H3)
        go_roundg (m - (k + 1))
        case measure => rw [HG.out]; omega
        case rel => exact ⟨k + 1, rfl, by omega, by go_num, rfl, by rw [wrTo_succ, ← List.append_assoc, HD.out]; exact H3.out⟩
    · obtain rfl : k = m := by omega
      go_wp2
      go_ret
      exact ⟨rfl, HO.out⟩

theorem digits_none (w0 w : World) (g cap n : Nat) (xs : List Int) (ao : Option Addr) (c : Nat) (f : Bool) (H : Hid (Own w0 g cap n xs w)) (hfit : n + 1 ≤ cap) :
    Calls Trym.prog 26 #[.slice (some ⟨g, 0, none⟩) n cap, .slice ao 0 c, .bool f] w fun e w' => e = .returned (.slice (some ⟨g, 0, none⟩) (n + 1) cap) ∧ Own w0 g cap (n + 1) (xs ++ [48]) w' := by
  go_enter Trym.func26, Trym.ntmps26
  go_wp2_with (at_builtin; refine wpList_add1 rfl (.tmp 12) (.tmp 13) rfl w0 g cap n xs _ rfl rfl H (by omega) ?_; intro w3 H3)
  go_ret
  exact ⟨rfl, H3.out⟩

theorem appendDigits_any (w0 w : World) (g cap n : Nat) (xs : List Int) (ao : Option Addr) (m c : Nat) (ds : List Int) (f : Bool) (H : Hid (Own w0 g cap n xs w)) (S : Hid (Src0 w0 ao m c ds))
    (hr : Hid (∀ k, 0 ≤ ds.getD k 0 ∧ ds.getD k 0 ≤ 255)) (hm : n + m + 1 ≤ 1048592) (hfit : n + m + 1 ≤ cap) :
    Calls Trym.prog 26 #[.slice (some ⟨g, 0, none⟩) n cap, .slice ao m c, .bool f] w fun e w' => ∃ n', e = .returned (.slice (some ⟨g, 0, none⟩) n' cap) ∧ n' ≤ n + m + 1 ∧ (0 < m → n' ≤ n + m) ∧ Own w0 g cap n' (xs ++ wrD f ds) w' := by
  have hl := S.out.len
  by_cases h0 : 0 < m
  · refine (digits_written w0 w g cap n xs ao m c ds f H S hr.out h0 (by omega) (by omega)).mono ?_
    rintro e w' ⟨rfl, hO⟩
    refine ⟨n + m, rfl, by omega, fun _ => Nat.le_refl _, ?_⟩
    rw [wrD, if_neg (by omega), hl]
    exact hO
  · obtain rfl : m = 0 := by omega
    refine (digits_none w0 w g cap n xs ao c f H (by omega)).mono ?_
    rintro e w' ⟨rfl, hO⟩
    refine ⟨n + 1, rfl, by omega, fun h => by omega, ?_⟩
    rw [wrD, if_pos hl]
    exact hO

set_option maxHeartbeats 1000000 in
theorem zz25_yes (a0 a2 a4 a8 a9 : Option Addr) (l0 c0 l2 c2 l4 c4 l8 c8 l9 c9 : Nat) (b1 b3 b5 b6 : Bool) (es : Int) (w : World) (h : l0 + l2 + l4 + l8 + l9 ≤ 1048576) :
    Calls Trym.prog 25 #[.slice a0 l0 c0, .bool b1, .slice a2 l2 c2, .bool b3, .slice a4 l4 c4, .bool b5, .bool b6, .int .i8 es, .slice a8 l8 c8, .slice a9 l9 c9] w fun e w' => e = .returned (.bool true) ∧ w = w' := by
  go_enter Trym.func25, Trym.ntmps25
  go_wp2
  go_ret
  exact ⟨rfl, rfl⟩
set_option maxHeartbeats 1000000 in
theorem zz25_no (a0 a2 a4 a8 a9 : Option Addr) (l0 c0 l2 c2 l4 c4 l8 c8 l9 c9 : Nat) (b1 b3 b5 b6 : Bool) (es : Int) (w : World) (h : 1048576 < l0 + l2 + l4 + l8 + l9) :
    Calls Trym.prog 25 #[.slice a0 l0 c0, .bool b1, .slice a2 l2 c2, .bool b3, .slice a4 l4 c4, .bool b5, .bool b6, .int .i8 es, .slice a8 l8 c8, .slice a9 l9 c9] w fun e w' => e = .returned (.bool false) ∧ w = w' := by
  go_enter Trym.func25, Trym.ntmps25
  go_wp2
  all_goals
    go_ret
    exact ⟨rfl, rfl⟩
end Go.Proofs.Qxb6000362aMods
