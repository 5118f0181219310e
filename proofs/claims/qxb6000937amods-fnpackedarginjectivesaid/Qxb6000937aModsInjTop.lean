/-
  The walk of FnPackedArgInjective.
-/
import Derived.Test.Qxb6000937aModsInj
namespace Go.Proofs.Qxb6000937aMods
open Go.RowKit
set_option linter.unusedSimpArgs false
set_option linter.unusedVariables false

theorem zz13_yes (a b : Option Addr) (l c m d : Nat) (w : World) (h : l + m ≤ 1048576) :
    Calls Trym.prog 13 #[.slice a l c, .slice b m d] w fun e w' => e = .returned (.bool true) ∧ w = w' := by
  go_enter Trym.func13, Trym.ntmps13
  go_wp2
  go_ret
  exact ⟨rfl, rfl⟩
theorem zz13_no (a b : Option Addr) (l c m d : Nat) (w : World) (h : 1048576 < l + m) :
    Calls Trym.prog 13 #[.slice a l c, .slice b m d] w fun e w' => e = .returned (.bool false) ∧ w = w' := by
  go_enter Trym.func13, Trym.ntmps13
  go_wp2
  all_goals
    go_ret
    exact ⟨rfl, rfl⟩
theorem inj_long (a b : Option Addr) (l c m d : Nat) (w : World) (h : 1048576 < l + m) :
    Calls Trym.prog 5 #[.slice a l c, .slice b m d] w fun e w' => e = .returned (.bool true) ∧ Below w.heap.size w w' := by
  go_enter Trym.func5, Trym.ntmps5
  go_wp2_with (go_at_call 13; refine (zz13_no _ _ _ _ _ _ _ h).mono ?_; rintro e w' ⟨rfl, rfl⟩)
  go_ret
  exact ⟨rfl, Below.refl _ _⟩
set_option maxHeartbeats 400000 in
theorem inj_over (a b : Option Addr) (l c m d : Nat) (w : World) (h : l + m ≤ 1048576) (h2 : 128 < l ∨ 128 < m) :
    Calls Trym.prog 5 #[.slice a l c, .slice b m d] w fun e w' => e = .returned (.bool true) ∧ Below w.heap.size w w' := by
  by_cases k1 : 524288 < l
  · go_enter Trym.func5, Trym.ntmps5
    go_wp2_with (go_at_call 13; refine (zz13_yes _ _ _ _ _ _ _ h).mono ?_; rintro e w' ⟨rfl, rfl⟩)
    go_ret
    exact ⟨rfl, Below.refl _ _⟩
  · have e1 : decide ((524288 : Int) < (l : Int)) = false := by simp; omega
    by_cases k2 : 524288 < m
    · go_enter Trym.func5, Trym.ntmps5
      go_wp2_with (go_at_call 13; refine (zz13_yes _ _ _ _ _ _ _ h).mono ?_; rintro e w' ⟨rfl, rfl⟩)
      go_ret
      exact ⟨rfl, Below.refl _ _⟩
    · have e2 : decide ((524288 : Int) < (m : Int)) = false := by simp; omega
      by_cases k3 : 128 < l
      · clear h2
        go_enter Trym.func5, Trym.ntmps5
        go_wp2_with (go_at_call 13; refine (zz13_yes _ _ _ _ _ _ _ h).mono ?_; rintro e w' ⟨rfl, rfl⟩)
        go_ret
        exact ⟨rfl, Below.refl _ _⟩
      · have e3 : decide ((128 : Int) < (l : Int)) = false := by simp; omega
        have k4 : 128 < m := by omega
        clear h2
        go_enter Trym.func5, Trym.ntmps5
        go_wp2_with (go_at_call 13; refine (zz13_yes _ _ _ _ _ _ _ h).mono ?_; rintro e w' ⟨rfl, rfl⟩)
        go_ret
        exact ⟨rfl, Below.refl _ _⟩

theorem bytesEqual_diff (a b : Option Addr) (l c m d : Nat) (w : World) (h : l ≠ m) :
    Calls Trym.prog 14 #[.slice a l c, .slice b m d] w fun e w' => e = .returned (.bool false) ∧ w = w' := by
  have hne : ((l : Int) != (m : Int)) = true := by simp; omega
  go_enter Trym.func14, Trym.ntmps14
  go_wp2
  go_ret
  exact ⟨rfl, rfl⟩

/-- A load of a whole array under a guard that says yes. -/
theorem wpList_load_guarded {ops : Array Oper} {rest : List Oper} {o : Oper} {a : Act} {w : World} {Q : Exit → Act → World → Prop} (x : Operand) (ho : o.op = .load 25 x) (hw : Region.wanted o (yielded ops a.tmps) = true)
    (b : Nat) (hx : a.eval x = .pointer (some ⟨b, 0, none⟩)) (cs : List Value) (hc : w.rangeAt b 0 cs) (hl : cs.length = 128)
    (h : wpList Trym.prog ops Q rest (a.put o.dst (.agg cs.toArray)) w) : wpList Trym.prog ops Q (o :: rest) a w := by
  rw [wpList, if_pos hw]
  exact .inl (wp_load_mid 25 x ho b 0 hx cs _ hc Trym.underlying25 rfl (by rw [hl]; exact Trym.size25) h)

theorem Src0.later {k : IntKind} {w w' : World} {ao : Option Addr} {ys : List Int} (h : Src0 k w ao ys) (hb : Below w.heap.size w w') : Src0 k w' ao ys := by
  intro i hi
  obtain ⟨b, off, h1, h2, h3⟩ := h i hi
  exact ⟨b, off, h1, by have := hb.size; omega, by rw [hb.cell (by exact h2)]; exact h3⟩
theorem range_below {B q o : Nat} {w w' : World} {vs : List Value} (h : w.rangeAt q o vs) (hb : Below B w w') (hq : q < B) : w'.rangeAt q o vs := by
  intro j v hv
  rw [hb.cell (by exact hq)]
  exact h j v hv

set_option maxHeartbeats 1000000 in
theorem inj_walk (a b : Option Addr) (c d : Nat) (w : World) (zs ys : List Int) (hm1 : zs.length ≤ 128) (hm2 : ys.length ≤ 128) (S1 : Hid (Src0 .u8 w a zs)) (S2 : Hid (Src0 .u8 w b ys))
    (hn1 : a = none → zs = [] ∧ c = 0) (hn2 : b = none → ys = [] ∧ d = 0) :
    Calls Trym.prog 5 #[.slice a zs.length c, .slice b ys.length d] w fun e w' => e = .returned (.bool true) ∧ Below w.heap.size w w' := by
  have hz25 := (zero_of_info Trym.zero25).1
  have e1 : decide ((524288 : Int) < (zs.length : Int)) = false := by simp; omega
  have e2 : decide ((524288 : Int) < (ys.length : Int)) = false := by simp; omega
  have e3 : decide ((128 : Int) < (zs.length : Int)) = false := by simp; omega
  have e4 : decide ((128 : Int) < (ys.length : Int)) = false := by simp; omega
  have HN1 := hide (clone_any a c w zs S1 (by omega) hn1)
  have HN2 := hide (fun w1 => fun (s : Src0 .u8 w1 b ys) => clone_any b d w1 ys s (by omega) hn2)
  clear hn1 hn2
  go_enter Trym.func5, Trym.ntmps5
  go_wp2_with (go_at_call 13; refine (zz13_yes _ _ _ _ _ _ _ (by omega)).mono ?_; rintro e w' ⟨rfl, rfl⟩)
  refine HN1.out.mono ?_
  rintro e w1 ⟨a1, c1, rfl, hb1, hd1⟩
  have HB1 := hide hb1
  have HD1 := hide hd1
  have T2 := hide (S2.out.later hb1)
  clear hb1 hd1 S1 S2 HN1
  go_wp2_with fail
  refine (HN2.out w1 T2.out).mono ?_
  rintro e w2 ⟨a2, c2, rfl, hb2, hd2⟩
  have HB2 := hide (HB1.out.trans (hb2.mono HB1.out.size))
  have HD2 := hide hd2
  have HD3 := hide ((HD1.out.below hb2).mono hb2.size)
  clear hb2 hd2 HD1 HB1 T2 HN2
  go_wp2_with fail
  refine (ZZNew_any a1 c1 w2 zs hm1 HD3).mono ?_
  rintro e w3 ⟨rfl, hb3⟩
  have HB3 := hide (store_pre hb3)
  clear hb3
  go_wp2_with (refine wpList_whole25 rfl (.tmp 6) (.tmp 39) rfl w2 w2.heap.size w3.heap.size (padV zs) rfl rfl (padV_length zs hm1) (padV_one zs) (there_zero128 w3) HB3.out.1 HB3.out.2 ?_; intro w4 HR4 HB4 hlt4)
  have HB5 := hide (HB2.out.trans (HB4.out.mono HB2.out.size))
  have HD5 := hide ((HD2.out.below HB4.out).mono HB4.out.size)
  have HD6 := hide ((HD3.out.below HB4.out).mono HB4.out.size)
  clear HB2 HB3 HB4 HD2 HD3
  obtain ⟨q1, hq1⟩ : ∃ q, q = w3.heap.size := ⟨_, rfl⟩
  rw [← hq1] at HR4 hlt4 ⊢
  clear hq1
  refine (ZZNew_any a2 c2 w4 ys hm2 HD5).mono ?_
  rintro e w5 ⟨rfl, hb5⟩
  have HB6 := hide (store_pre hb5)
  clear hb5
  go_wp2_with (refine wpList_whole25 rfl (.tmp 8) (.tmp 44) rfl w4 w4.heap.size w5.heap.size (padV ys) rfl rfl (padV_length ys hm2) (padV_one ys) (there_zero128 w5) HB6.out.1 HB6.out.2 ?_; intro w6 HR6 HB7 hlt6)
  have HB8 := hide (HB5.out.trans (HB7.out.mono HB5.out.size))
  have HE1 := hide (HD6.out.below HB7.out)
  have HE2 := hide (HD5.out.below HB7.out)
  have HR5 := hide (range_below HR4.out HB7.out hlt4)
  clear HB5 HB6 HB7 HD5 HD6 HR4 hz25
  obtain ⟨q2, hq2⟩ : ∃ q, q = w5.heap.size := ⟨_, rfl⟩
  rw [← hq2] at HR6 hlt6 ⊢
  clear hq2
  by_cases hl : zs.length = ys.length
  · refine (bytesEqual_same a1 a2 c1 c2 w6 zs ys w4.heap.size HE1 HE2 hm1 hl).mono ?_
    rintro e w7 ⟨rfl, n, hw7⟩
    have HR8 : Hid (w7.rangeAt q1 0 (padV zs)) := by rw [hw7]; exact range_drewN HR5.out n
    have HR9 : Hid (w7.rangeAt q2 0 (padV ys)) := by rw [hw7]; exact range_drewN HR6.out n
    have HB9 : Hid (Below w.heap.size w w7) := by rw [hw7]; exact below_drewN HB8.out n
    have heq := run_eql_pad zs ys hm1 hl
    obtain ⟨E, hE⟩ : ∃ E, E = decide (zs = ys) := ⟨_, rfl⟩
    rw [← hE] at heq ⊢
    have hlb : ((zs.length : Int) == (ys.length : Int)) = true := by simp; omega
    clear hE hw7 HR5 HR6 HB8 HE1 HE2 hl
    go_wp2_with (first | (refine wpList_load_guarded (.tmp 6) rfl rfl q1 rfl (padV zs) HR8.out (padV_length zs hm1) ?_) | (refine wpList_load_guarded (.tmp 8) rfl rfl q2 rfl (padV ys) HR9.out (padV_length ys hm2) ?_))
    go_ret
    exact ⟨by simp, HB9.out⟩
  · refine (bytesEqual_diff a1 a2 zs.length c1 ys.length c2 w6 hl).mono ?_
    rintro e w7 ⟨rfl, rfl⟩
    have hlb : ((zs.length : Int) == (ys.length : Int)) = false := by simp; omega
    clear hl
    go_wp2
    go_ret
    exact ⟨rfl, HB8.out⟩

end Go.Proofs.Qxb6000937aMods
