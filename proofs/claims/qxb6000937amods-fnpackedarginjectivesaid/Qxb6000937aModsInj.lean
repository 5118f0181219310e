/-
  The walk of FnPackedArgInjective.
-/
import Derived.Test.Qxb6000937aModsRound
import Derived.ChangeKeysEq
namespace Go.Proofs.Qxb6000937aMods
open Go.RowKit
set_option linter.unusedSimpArgs false
set_option linter.unusedVariables false

theorem Trym.cells5 : Trym.prog.cellsOf 5 = 1 := by kernel_rfl

theorem run_part5 (vs : List Value) (i : Nat) (v : Value) (hv : vs[i]? = some v) (w : World) : (part 5 vs.toArray i).run Trym.prog w = .ok v w := by
  obtain ⟨j, hi, hz0, hz1, hz2⟩ := info_parts Trym.info5
  simp [part, Trym.underlying5, run_underlying, sizeOf, typeInfo, hi, hz1, hv]

theorem run_eqItems (d : Nat) (xs ys : List Int) : ∀ (is : List Nat), (∀ i ∈ is, i < xs.length ∧ i < ys.length) → ∀ w : World,
    (Op.eqItems (d + 1) 5 1 (xs.map (Value.int .u8)).toArray (ys.map (Value.int .u8)).toArray is).run Trym.prog w = .ok (is.all fun i => xs.getD i 0 == ys.getD i 0) w
  | [], _, w => by simp [Op.eqItems]
  | i :: is, h, w => by
    obtain ⟨h1, h2⟩ := h i (by simp)
    have ih := run_eqItems d xs ys is (fun j hj => h j (by simp [hj])) w
    have p1 := run_part5 (xs.map (Value.int .u8)) i (.int .u8 (xs.getD i 0)) (by simp [h1, List.getD]) w
    have p2 := run_part5 (ys.map (Value.int .u8)) i (.int .u8 (ys.getD i 0)) (by simp [h2, List.getD]) w
    have p3 := run_equalIn_int (P := Trym.prog) w d 5 .u8 .u8 (xs.getD i 0) (ys.getD i 0) Trym.underlying5
    rw [Op.eqItems]
    simp only [Sem.run_bind, Nat.mul_one, p1, p2, p3, Result.andThen_ok]
    cases hb : (xs.getD i 0 == ys.getD i 0)
    · rw [if_pos (by rfl), List.all_cons, hb]; rfl
    · rw [if_neg (by simp), ih, List.all_cons, hb]; rfl

def padI (zs : List Int) : List Int := zs ++ List.replicate (128 - zs.length) 0
theorem all_eq {xs ys : List Int} {n : Nat} (hx : xs.length = n) (hy : ys.length = n) : ((List.range n).all fun i => xs.getD i 0 == ys.getD i 0) = decide (xs = ys) := by
  rw [Bool.eq_iff_iff]
  simp only [List.all_eq_true, List.mem_range, beq_iff_eq, decide_eq_true_eq]
  constructor
  · intro h
    refine List.ext_getElem (by omega) (fun i h1 h2 => ?_)
    have := h i (by omega)
    simpa [List.getD, h1, h2] using this
  · rintro rfl i _; rfl
theorem pad_eq {zs ys : List Int} (hl : zs.length = ys.length) : decide (padI zs = padI ys) = decide (zs = ys) := by
  have : (padI zs = padI ys) ↔ (zs = ys) := by
    unfold padI
    rw [hl]
    exact List.append_left_inj _
  simp [this]
/-- '==' on two packed arrays of equal lengths. -/
theorem run_eql_pad (zs ys : List Int) (h1 : zs.length ≤ 128) (hl : zs.length = ys.length) (w : World) :
    (Op.equalIn 10000 25 (.agg (padV zs).toArray) (.agg (padV ys).toArray)).run Trym.prog w = .ok (decide (zs = ys)) w := by
  obtain ⟨i, hi, _⟩ := info_parts Trym.info5
  have e := run_equalIn_array (P := Trym.prog) w 9999 (padV zs).toArray (padV ys).toArray Trym.underlying25 hi
  rw [Trym.cells5] at e
  have l1 : (padI zs).length = 128 := by simp [padI]; omega
  have l2 : (padI ys).length = 128 := by simp [padI]; omega
  have r := run_eqItems 9998 (padI zs) (padI ys) (List.range 128) (fun i hi => by simp at hi; omega) w
  rw [all_eq l1 l2, pad_eq hl] at r
  exact e.trans r

theorem eq_next {zs ys : List Int} {k : Nat} (h : ∀ j, j < k → zs.getD j 0 = ys.getD j 0) (hk : zs.getD k 0 = ys.getD k 0) : ∀ j, j < k + 1 → zs.getD j 0 = ys.getD j 0 := by
  intro j hj
  by_cases e : j < k
  · exact h j e
  · obtain rfl : j = k := by omega
    exact hk
theorem eq_all {zs ys : List Int} (hl : zs.length = ys.length) (h : ∀ j, j < zs.length → zs.getD j 0 = ys.getD j 0) : zs = ys := by
  refine List.ext_getElem hl (fun i h1 h2 => ?_)
  have := h i h1
  simpa [List.getD, h1, h2] using this
theorem draw_more {w wr : World} (h : ∃ m, wr = w.drewN m) (n : Nat) : ∃ m, wr.drewN n = w.drewN m := by
  obtain ⟨m, rfl⟩ := h
  exact ⟨m + n, World.drewN_drewN _ _ _⟩

set_option maxHeartbeats 400000 in
theorem bytesEqual_same (a b : Option Addr) (c d : Nat) (w : World) (zs ys : List Int) (B : Nat) (HA : Hid (Data .u8 B w a zs)) (HB : Hid (Data .u8 B w b ys)) (hm : zs.length ≤ 128) (hl : zs.length = ys.length) :
    Calls Trym.prog 14 #[.slice a zs.length c, .slice b ys.length d] w fun e w' => e = .returned (.bool (decide (zs = ys))) ∧ ∃ n, w' = w.drewN n := by
  have HL := hide hl
  rw [← hl]
  clear hl
  go_enter Trym.func14, Trym.ntmps14
  go_wp2
  go_loopg [5] zs.length (fun n t wr => ∃ k : Nat, n = zs.length - k ∧ k ≤ zs.length ∧ t = .int .i64 k ∧ (∀ j, j < k → zs.getD j 0 = ys.getD j 0) ∧ Data .u8 B wr a zs ∧ Data .u8 B wr b ys ∧ Hid (∃ m, wr = w.drewN m))
  case atStart => exact ⟨0, rfl, by omega, rfl, fun j h => by omega, HA.out, HB.out, ⟨0, rfl⟩⟩
  case round =>
    obtain ⟨k, hgk, hk, rfl, hj, hd1, hd2, HW⟩ := hrel
    have HG := hide hgk
    have HJ := hide hj
    have HD1 := hide hd1
    have HD2 := hide hd2
    clear hgk hj hd1 hd2 HA HB
    by_cases hlt : k < zs.length
    · obtain ⟨g1, rfl, _, hc1⟩ := HD1.out k hlt
      obtain ⟨g2, rfl, _, hc2⟩ := HD2.out k (by have := HL.out; omega)
      have hk1 : (k : Int) < (zs.length : Int) := by omega
      obtain ⟨z, hz⟩ : ∃ z, z = zs.getD k 0 := ⟨_, rfl⟩
      obtain ⟨y, hy⟩ : ∃ y, y = ys.getD k 0 := ⟨_, rfl⟩
      rw [← hz] at hc1
      rw [← hy] at hc2
      have HZ := hide hz
      have HY := hide hy
      clear hz hy
      by_cases hzy : z = y
      · subst hzy
        go_wp2
        go_quiet (fail)
        go_wp2
        go_roundg (zs.length - (k + 1))
        case measure => rw [HG.out]; omega
        case rel => exact ⟨k + 1, rfl, by omega, by go_num, eq_next HJ.out (HZ.out.symm.trans HY.out), HD1.out.drewN _, HD2.out.drewN _, draw_more HW.out _⟩
      · have hne : (z != y) = true := by simpa using hzy
        have HN : Hid (decide (zs = ys) = false) := decide_eq_false (fun e => hzy (by rw [HZ.out, HY.out, e]))
        clear hzy
        go_wp2
        go_quiet (fail)
        go_wp2
        go_ret
        exact ⟨by rw [HN.out]; rfl, draw_more HW.out _⟩
    · have HN : Hid (decide (zs = ys) = true) := decide_eq_true (eq_all HL.out (fun j hj => HJ.out j (by omega)))
      go_wp2
      go_ret
      exact ⟨by rw [HN.out]; rfl, HW.out⟩

end Go.Proofs.Qxb6000937aMods
