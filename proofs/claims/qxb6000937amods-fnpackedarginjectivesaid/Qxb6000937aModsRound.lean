/-
  The walk of FnPackedArgRoundTrip.
-/
import Derived.Test.Qxb6000937aModsZZNew
namespace Go.Proofs.Qxb6000937aMods
open Go.RowKit
set_option linter.unusedSimpArgs false
set_option linter.unusedVariables false

theorem zz9_yes (a : Option Addr) (len cap : Nat) (w : World) (h : len ≤ 1048576) :
    Calls Trym.prog 9 #[.slice a len cap] w fun e w' => e = .returned (.bool true) ∧ w = w' := by
  go_enter Trym.func9, Trym.ntmps9
  go_wp2
  go_ret
  exact ⟨rfl, rfl⟩
theorem zz9_no (a : Option Addr) (len cap : Nat) (w : World) (h : 1048576 < len) :
    Calls Trym.prog 9 #[.slice a len cap] w fun e w' => e = .returned (.bool false) ∧ w = w' := by
  go_enter Trym.func9, Trym.ntmps9
  go_wp2
  go_ret
  exact ⟨rfl, rfl⟩

theorem round_long (a : Option Addr) (len cap : Nat) (w : World) (h : 1048576 < len) :
    Calls Trym.prog 3 #[.slice a len cap] w fun e w' => e = .returned (.bool true) ∧ Below w.heap.size w w' := by
  go_enter Trym.func3, Trym.ntmps3
  go_wp2_with (go_at_call 9; refine (zz9_no _ _ _ _ h).mono ?_; rintro e w' ⟨rfl, rfl⟩)
  go_ret
  exact ⟨rfl, Below.refl _ _⟩
theorem round_over (a : Option Addr) (len cap : Nat) (w : World) (h : len ≤ 1048576) (h2 : 128 < len) :
    Calls Trym.prog 3 #[.slice a len cap] w fun e w' => e = .returned (.bool true) ∧ Below w.heap.size w w' := by
  go_enter Trym.func3, Trym.ntmps3
  go_wp2_with (go_at_call 9; refine (zz9_yes _ _ _ _ h).mono ?_; rintro e w' ⟨rfl, rfl⟩)
  go_ret
  exact ⟨rfl, Below.refl _ _⟩

/-- An array goes whole into the block that was laid for it. -/
theorem wpList_whole25 {w : World} {ops : Array Oper} {rest : List Oper} {o : Oper} {a : Act} {Q : Exit → Act → World → Prop} (hgd : o.guard = none) (x y : Operand) (ho : o.op = .store 25 x y)
    (w0 : World) (B r : Nat) (vs : List Value) (hx : a.eval x = .pointer (some ⟨r, 0, none⟩)) (hy : a.eval y = .agg vs.toArray) (hl : vs.length = 128) (h1 : ∀ v ∈ vs, v.oneCell' = true)
    (ht : w.there r 0 128) (hr : B ≤ r) (hb : Below B w0 w)
    (h : ∀ w', Hid (w'.rangeAt r 0 vs) → Hid (Below B w0 w') → r < w'.heap.size → wpList Trym.prog ops Q rest (a.put o.dst undef) w') : wpList Trym.prog ops Q (o :: rest) a w := by
  have ht' : w.there r 0 vs.toArray.size := by simpa [hl] using ht
  refine wpList_store_mid hgd 25 x y ho r 0 vs.toArray hx hy ht' (by simpa [hl] using Trym.size25) (all_oneCell_toArray h1) ?_
  have hr' := World.rangeAt_setCells_same w r 0 vs (by simpa [hl] using ht)
  refine h _ hr' (below_setCells hb hr 0 vs) ?_
  obtain ⟨v, hv⟩ : ∃ v, vs[0]? = some v := ⟨vs[0]'(by omega), by simp⟩
  exact World.block_lt_of_cell? _ _ (hr' 0 v hv)

theorem pad_at {w : World} {q : Nat} {zs : List Int} (h : w.rangeAt q 0 (padV zs)) {k : Nat} (hk : k < zs.length) : w.cell? ⟨q, k, none⟩ = some (.int .u8 (zs.getD k 0)) := by
  have := h k (.int .u8 (zs.getD k 0)) (by simp [padV, List.getElem?_append, hk, List.getD])
  rwa [Nat.zero_add] at this
theorem range_drewN {w : World} {q o : Nat} {vs : List Value} (h : w.rangeAt q o vs) (n : Nat) : (w.drewN n).rangeAt q o vs := by
  intro j v hv
  simpa using h j v hv
theorem store_pre {w1 w2 : World} (hb : Below w1.heap.size w1 w2) : w1.heap.size ≤ w2.heap.size ∧ Below w1.heap.size w1 (w2.alloc (.cells zero128.toArray 25)) :=
  ⟨hb.size, hb.alloc hb.size _⟩

set_option maxHeartbeats 1000000 in
theorem round_walk (a : Option Addr) (cap : Nat) (w : World) (zs : List Int) (hm : zs.length ≤ 128) (S : Hid (Src0 .u8 w a zs)) (hn : a = none → zs = [] ∧ cap = 0) :
    Calls Trym.prog 3 #[.slice a zs.length cap] w fun e w' => e = .returned (.bool true) ∧ Below w.heap.size w w' := by
  have hz25 := (zero_of_info Trym.zero25).1
  have d1 : decide ((1048576 : Int) < (zs.length : Int)) = false := by simp; omega
  have d2 : decide ((128 : Int) < (zs.length : Int)) = false := by simp; omega
  have HCl := hide (clone_any a cap w zs S (by omega) hn)
  clear hn
  go_enter Trym.func3, Trym.ntmps3
  go_wp2_with (first | (go_at_call 9; refine (zz9_yes _ _ _ _ (by omega)).mono ?_; rintro e w' ⟨rfl, rfl⟩) | (go_at_call 10; refine HCl.out.mono ?_; rintro e w1 ⟨a', c', rfl, hb1, hd1⟩; have HB1 := hide hb1; have HD1 := hide hd1; clear hb1 hd1) | (go_at_call 11; refine (ZZNew_any a' c' w1 zs hm HD1).mono ?_; rintro e w2 ⟨rfl, hb2⟩; have HB2 := hide (store_pre hb2); clear hb2) | (refine wpList_whole25 rfl (.tmp 4) (.tmp 21) rfl w1 w1.heap.size w2.heap.size (padV zs) rfl rfl (padV_length zs hm) (padV_one zs) (there_zero128 w2) HB2.out.1 HB2.out.2 ?_; intro w3 HR3 HB3 hlt3))
  have HB4 := hide (HB1.out.trans (HB3.out.mono HB1.out.size))
  have HD4 := hide (HD1.out.below HB3.out)
  clear HB1 HB2 HB3 HD1 hz25
  obtain ⟨q, hq⟩ : ∃ q, q = w2.heap.size := ⟨_, rfl⟩
  rw [← hq] at HR3 hlt3 ⊢
  clear hq
  obtain ⟨B, hB⟩ : ∃ B, B = w1.heap.size := ⟨_, rfl⟩
  rw [← hB] at HD4
  clear hB
  go_loopg [5] zs.length (fun n t wr => ∃ k : Nat, n = zs.length - k ∧ k ≤ zs.length ∧ t = .int .i64 k ∧ wr.rangeAt q 0 (padV zs) ∧ Data .u8 B wr a' zs ∧ Below w.heap.size w wr)
  case atStart => exact ⟨0, rfl, by omega, rfl, HR3.out, HD4.out, HB4.out⟩
  case round =>
    obtain ⟨k, hgk, hk, rfl, hr, hd, hb⟩ := hrel
    have HG := hide hgk
    have HR := hide hr
    have HD := hide hd
    have HB := hide hb
    clear hgk hr hd hb HR3 HD4 HB4
    by_cases hlt : k < zs.length
    · obtain ⟨g, rfl, _, hc⟩ := HD.out k hlt
      have hc2 := pad_at HR.out hlt
      have hk1 : (k : Int) < (zs.length : Int) := by omega
      have hk2 : (k : Int) < 128 := by omega
      obtain ⟨z, hz⟩ : ∃ z, z = zs.getD k 0 := ⟨_, rfl⟩
      rw [← hz] at hc hc2
      clear hz
      go_wp2
      go_quiet (fail)
      go_wp2
      go_roundg (zs.length - (k + 1))
      case measure => rw [HG.out]; omega
      case rel => exact ⟨k + 1, rfl, by omega, by go_num, range_drewN HR.out _, HD.out.drewN _, below_drewN HB.out _⟩
    · go_wp2
      go_ret
      exact ⟨rfl, HB.out⟩

end Go.Proofs.Qxb6000937aMods
