/-
  The walk of FnSkipSpaceStopsAtFirstNonSpace.
-/
import Derived.Test.Qxb6000362aModsBase
import Derived.Laws.CopyOwn
import Derived.Deep.OwnRows
namespace Go.Proofs.Qxb6000362aMods
open Go.RowKit
set_option linter.unusedSimpArgs false
set_option linter.unusedVariables false

theorem Trym.info5 : (Trym.prog.info? 5).map (fun i => (i.zero, i.size, i.bytes)) = some (some (.int .u8 0), 1, 1) := by kernel_rfl
theorem Trym.size5 : (Trym.prog.info? 5).map (·.size) = some 1 := by kernel_rfl

theorem data_of_row {B : Nat} {w : World} {g : Nat} {zs : List Int} (h : w.heap[g]? = some (.cells (zs.map (Value.int .u8)).toArray 5 (0, 0))) (hB : g < B) : Data B w (some ⟨g, 0, none⟩) zs := by
  intro k hk
  refine ⟨g, rfl, hB, ?_⟩
  rw [cell_of_row w g k _ 5 (0, 0) h]
  simp [hk, List.getD]

theorem splice_whole {α : Type} (L cs : List α) (h : L.length = cs.length) : splice L 0 cs = cs := by
  simp [splice, h]

theorem zz10_yes (a : Option Addr) (len cap : Nat) (i : Int) (w : World) (h : len ≤ 1048576) :
    Calls Trym.prog 10 #[.slice a len cap, .int .i64 i] w fun e w' => e = .returned (.bool true) ∧ w = w' := by
  go_enter Trym.func10, Trym.ntmps10
  go_wp2
  go_ret
  exact ⟨rfl, rfl⟩
theorem zz10_no (a : Option Addr) (len cap : Nat) (i : Int) (w : World) (h : 1048576 < len) :
    Calls Trym.prog 10 #[.slice a len cap, .int .i64 i] w fun e w' => e = .returned (.bool false) ∧ w = w' := by
  go_enter Trym.func10, Trym.ntmps10
  go_wp2
  go_ret
  exact ⟨rfl, rfl⟩

theorem skip_long (a : Option Addr) (len cap : Nat) (i : Int) (w : World) (h : 1048576 < len) :
    Calls Trym.prog 3 #[.slice a len cap, .int .i64 i] w fun e w' => e = .returned (.bool true) ∧ Below w.heap.size w w' := by
  go_enter Trym.func3, Trym.ntmps3
  go_wp2_with (go_at_call 10; refine (zz10_no _ _ _ _ _ h).mono ?_; rintro e w' ⟨rfl, rfl⟩)
  go_ret
  exact ⟨rfl, Below.refl _ _⟩

theorem skip_neg (a : Option Addr) (len cap : Nat) (i : Int) (w : World) (h : len ≤ 1048576) (hi : i < 0) :
    Calls Trym.prog 3 #[.slice a len cap, .int .i64 i] w fun e w' => e = .returned (.bool true) ∧ Below w.heap.size w w' := by
  go_enter Trym.func3, Trym.ntmps3
  go_wp2_with (go_at_call 10; refine (zz10_yes _ _ _ _ _ h).mono ?_; rintro e w' ⟨rfl, rfl⟩)
  go_ret
  exact ⟨rfl, Below.refl _ _⟩

theorem skip_past (a : Option Addr) (len cap : Nat) (i : Int) (w : World) (h : len ≤ 1048576) (hi : (len : Int) < i) :
    Calls Trym.prog 3 #[.slice a len cap, .int .i64 i] w fun e w' => e = .returned (.bool true) ∧ Below w.heap.size w w' := by
  have h0 : decide (i < 0) = false := by simp; omega
  go_enter Trym.func3, Trym.ntmps3
  go_wp2_with (go_at_call 10; refine (zz10_yes _ _ _ _ _ h).mono ?_; rintro e w' ⟨rfl, rfl⟩)
  go_ret
  exact ⟨rfl, Below.refl _ _⟩

theorem made_row (w : World) (n : Nat) : (w.alloc (.cells (madeCells #[.int .u8 0] n) 5)).heap[w.heap.size]? = some (.cells (List.replicate n (Value.int .u8 0)).toArray 5 (0, 0)) := by
  rw [heap_alloc_new]
  congr 2
  rw [← toList_madeCells_one]

theorem src_cells {w w1 : World} {x : Addr} {zs : List Int} (hb : Below w.heap.size w w1) (hc : ∀ k, k < zs.length → w.cell? (x.add k) = some (.int .u8 (zs.getD k 0))) :
    ∀ j v, (zs.map (Value.int .u8))[j]? = some v → w1.cell? (x.add j) = some v := by
  intro j v hv
  have hj : j < zs.length := by
    have := (List.getElem?_eq_some_iff.1 hv).1
    simpa using this
  have hx := World.block_lt_of_cell? w _ (hc j hj)
  rw [hb.cell hx, hc j hj]
  simp [hj, List.getD] at hv ⊢
  exact hv

theorem Data.cell {B : Nat} {w : World} {g : Nat} {zs : List Int} (h : Data B w (some ⟨g, 0, none⟩) zs) {k : Nat} (hk : k < zs.length) : w.cell? ⟨g, k, none⟩ = some (.int .u8 (zs.getD k 0)) := by
  obtain ⟨g', e, _, hc⟩ := h k hk
  simp only [Option.some.injEq, Addr.mk.injEq, and_true] at e
  subst e
  exact hc

/-- 'zzc := make([]byte, len(data)); copy(zzc, data)': behind the copy the new block holds the bytes. -/
theorem wpList_copied {w : World} {ops : Array Oper} {rest : List Oper} {o : Oper} {a : Act} {Q : Exit → Act → World → Prop} (hgd : o.guard = none) (d s : Operand)
    (ho : o.op = .call { callee := .builtin .copy, args := #[d, s], argTypes := #[22, 22] }) (x : Addr) (cap : Nat) (zs : List Int)
    (hd : a.eval d = .slice (some ⟨w.heap.size, 0, none⟩) zs.length zs.length) (hs : a.eval s = .slice (some x) zs.length cap)
    (hc : ∀ k, k < zs.length → w.cell? (x.add k) = some (.int .u8 (zs.getD k 0)))
    (h : ∀ w', Hid (Data w'.heap.size w' (some ⟨w.heap.size, 0, none⟩) zs) → Hid (Below w.heap.size w w') → wpList Trym.prog ops Q rest (a.put o.dst (goInt zs.length)) w') :
    wpList Trym.prog ops Q (o :: rest) a (w.alloc (.cells (madeCells #[.int .u8 0] zs.length) 5)) := by
  have hb : Below w.heap.size w (w.alloc (.cells (madeCells #[.int .u8 0] zs.length) 5)) := (Below.refl _ _).alloc (Nat.le_refl _) _
  refine wpList_copy_splice hgd d s 22 22 ho 5 Trym.underlying22 Trym.size5 _ _ _ _ _ _ hd hs w.heap.size 0 (List.replicate zs.length (Value.int .u8 0)) 5 (made_row w _) (zs.map (Value.int .u8)) (by simp) ?_ (by simp) ?_ w.heap.size w hb (Nat.le_refl _) ?_
  · exact fun _ => ⟨rfl, x, rfl, src_cells hb hc⟩
  · intro v hv
    obtain ⟨z, _, rfl⟩ := List.mem_map.1 hv
    rfl
  · intro w' hg hb'
    have hg' := hg.out
    rw [splice_whole _ _ (by simp)] at hg'
    have hlt := (Array.getElem?_eq_some_iff.1 hg').1
    have := h w' (data_of_row hg' hlt) hb'
    simpa using this

set_option maxHeartbeats 400000 in
theorem skip_some (x : Addr) (cap i : Nat) (w : World) (zs : List Int) (h : zs.length ≤ 1048576) (hi : i ≤ zs.length)
    (hc : ∀ k, k < zs.length → w.cell? (x.add k) = some (.int .u8 (zs.getD k 0))) :
    Calls Trym.prog 3 #[.slice (some x) zs.length cap, .int .i64 i] w fun e w' => e = .returned (.bool true) ∧ Below w.heap.size w w' := by
  have h0 : decide ((i : Int) < 0) = false := by simp
  have h1 : decide (zs.length < i) = false := by simp; omega
  have hne := fun w => run_neq_slice_nil_any (P := Trym.prog) w 22 5 (some x) zs.length cap 0 0 Trym.underlying22
  have hmk := fun w => run_make_row' (P := Trym.prog) 22 5 (.int .u8 0) 1 Trym.underlying22 Trym.info5 rfl .i64 .i64 zs.length (by omega) (by omega) w
  have HC := hide hc
  clear hc
  go_enter Trym.func3, Trym.ntmps3
  go_wp2_with (first | (go_at_call 10; refine (zz10_yes _ _ _ _ _ h).mono ?_; rintro e w' ⟨rfl, rfl⟩) | (refine wpList_copied rfl (.tmp 28) (.tmp 29) rfl x cap zs rfl rfl HC.out ?_; intro w1 HD HB))
  refine (ZZSkip_any w1 zs.length i (some ⟨w.heap.size, 0, none⟩) zs HD.out (by unfold maxLen; omega) hi).mono ?_
  rintro e w2 ⟨j, rfl, h2, h3, h4, h5, h6⟩
  have HB2 := hide (HB.out.trans (h6.mono HB.out.size))
  have HD2 := hide (HD.out.below h6)
  have H4 := hide h4
  have H5 := hide h5
  clear h4 h5 h6 HD HB hmk hne HC
  have hji : decide (j < i) = false := by simp; omega
  have hjl : decide (zs.length < j) = false := by simp; omega
  have hl1 : decide ((1048576 : Int) < (zs.length : Int)) = false := by simp; omega
  go_wp2
  go_loop [7] (fun v => ∃ k : Nat, i ≤ k ∧ k ≤ j ∧ v = .int .i64 k) (fun v => j - (intOf v).toNat)
  case atStart => exact ⟨i, Nat.le_refl _, h2, rfl⟩
  case round =>
    obtain ⟨k, hk1, hk2, rfl⟩ := hrel
    by_cases hlt : k < j
    · have hkl : k < zs.length := by omega
      have hcell := HD2.out.cell hkl
      have hz := H4.out k hk1 hlt
      generalize zs.getD k 0 = z at hcell hz
      go_wp2_with (go_at_call 12; refine (isJSONSpace_any _ _).mono ?_; rintro e w' ⟨rfl, rfl⟩)
      go_round
      case rel => exact ⟨k + 1, by omega, by omega, by go_num⟩
      case measure => simp [intOf]; omega
    · obtain rfl : k = j := by omega
      clear hlt
      by_cases hkl : k < zs.length
      · have hcell := HD2.out.cell hkl
        have hz := H5.out hkl
        generalize zs.getD k 0 = z at hcell hz
        go_wp2_with (go_at_call 12; refine (isJSONSpace_any _ _).mono ?_; rintro e w' ⟨rfl, rfl⟩)
        go_ret
        exact ⟨rfl, HB2.out⟩
      · have hkd : decide (k < zs.length) = false := by simpa using hkl
        go_wp2_with fail
        go_ret
        exact ⟨rfl, HB2.out⟩

theorem ZZSkip_nil (w : World) : Calls Trym.prog 11 #[.slice none 0 0, .int .i64 0] w fun e w' => e = .returned (.int .i64 0) ∧ Below w.heap.size w w' := by
  have h := ZZSkip_any w 0 0 none [] (fun k hk => by simp at hk) (by simp) (by simp)
  refine h.mono ?_
  rintro e w' ⟨j, rfl, _, hj, _, _, hb⟩
  obtain rfl : j = 0 := by simpa using hj
  exact ⟨rfl, hb⟩

set_option maxHeartbeats 400000 in
theorem skip_nil (w : World) :
    Calls Trym.prog 3 #[.slice none 0 0, .int .i64 0] w fun e w' => e = .returned (.bool true) ∧ Below w.heap.size w w' := by
  have hne := fun w => run_neq_slice_nil_any (P := Trym.prog) w 22 5 none 0 0 0 0 Trym.underlying22
  go_enter Trym.func3, Trym.ntmps3
  go_wp2_with (first | (go_at_call 10; refine (zz10_yes _ _ _ _ _ (Nat.zero_le _)).mono ?_; rintro e w' ⟨rfl, rfl⟩) | (go_at_call 11; refine (ZZSkip_nil _).mono ?_; rintro e w1 ⟨rfl, hb⟩))
  go_loop [7] (fun v => v = .int .i64 0) (fun v => 0)
  case atStart => rfl
  case round =>
    subst hrel
    go_wp2
    go_ret
    exact ⟨rfl, hb⟩

end Go.Proofs.Qxb6000362aMods
