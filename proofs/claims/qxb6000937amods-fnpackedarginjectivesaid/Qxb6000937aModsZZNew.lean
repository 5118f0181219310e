/-
  The walk of ZZNewPackedArg.
-/
import Derived.Test.Qxb6000937aModsBase
import Derived.Deep.RegionHeld
namespace Go.Proofs.Qxb6000937aMods
open Go.RowKit
set_option linter.unusedSimpArgs false
set_option linter.unusedVariables false

theorem there_zero128 (w : World) : (w.alloc (.cells zero128.toArray 25)).there w.heap.size 0 128 := by
  intro j hj
  have hg : (w.alloc (.cells zero128.toArray 25)).heap[w.heap.size]? = some (.cells zero128.toArray 25 (0, 0)) := heap_alloc_new _ _
  refine ⟨?_, frozen_of_row _ _ _ _ _ hg⟩
  rw [cell_of_row _ _ _ _ 25 (0, 0) hg]
  simp [zero128, hj]
theorem range_tail {w : World} {p : Nat} {zs : List Int} (h : w.rangeAt p 0 (packV zs)) : w.rangeAt p 1 (padV zs) := by
  intro j v hv
  have := h (j + 1) v (by simpa [packV] using hv)
  rw [Nat.zero_add] at this
  rw [Nat.add_comm]
  exact this
theorem range_head {w : World} {p : Nat} {zs : List Int} (h : w.rangeAt p 0 (packV zs)) : w.cell? ⟨p, 0, none⟩ = some (.int .u8 zs.length) := h 0 _ rfl

theorem keep_draw {w : World} {p q : Nat} {zs : List Int} (h : w.cell? ⟨p, 0, none⟩ = some (.int .u8 zs.length) ∧ w.rangeAt p 1 (padV zs) ∧ w.there q 0 128) :
    w.drew.cell? ⟨p, 0, none⟩ = some (.int .u8 zs.length) ∧ w.drew.rangeAt p 1 (padV zs) ∧ w.drew.there q 0 128 :=
  ⟨by simpa using h.1, by simpa using h.2.1, by simpa using h.2.2⟩
theorem keep_put {w : World} {p q : Nat} {zs : List Int} (vs : List Value) (hpq : p ≠ q) (h : w.cell? ⟨p, 0, none⟩ = some (.int .u8 zs.length) ∧ w.rangeAt p 1 (padV zs) ∧ w.there q 0 128) :
    (w.setCells q 0 vs).cell? ⟨p, 0, none⟩ = some (.int .u8 zs.length) ∧ (w.setCells q 0 vs).rangeAt p 1 (padV zs) ∧ (w.setCells q 0 vs).there q 0 128 :=
  ⟨by rw [World.cell?_setCells_out q vs 0 w _ (fun hb _ => absurd hb hpq)]; exact h.1, World.rangeAt_setCells_apart h.2.1 q 0 vs (.inl hpq), World.there_setCells h.2.2 q 0 vs⟩

theorem zz_pre {w w1 : World} (hb : Below (w.alloc (.cells zero128.toArray 25)).heap.size (w.alloc (.cells zero128.toArray 25)) w1) :
    w.heap.size + 1 ≤ w1.heap.size ∧ Below (w.heap.size + 1) (w.alloc (.cells zero128.toArray 25)) (w1.alloc (.cells zero129.toArray 38)) := by
  have hz : (w.alloc (.cells zero128.toArray 25)).heap.size = w.heap.size + 1 := by simp
  have hs := hb.size
  rw [hz] at hb hs
  exact ⟨hs, hb.alloc hs _⟩

set_option maxHeartbeats 1000000 in
theorem ZZNew_any (a : Option Addr) (cap : Nat) (w : World) (zs : List Int) (hm : zs.length ≤ 128) (HD : Hid (Data .u8 w.heap.size w a zs)) :
    Calls Trym.prog 11 #[.slice a zs.length cap] w fun e w' => e = .returned (.tuple #[.int .u8 zs.length, .agg (padV zs).toArray]) ∧ Below w.heap.size w w' := by
  have hz38 := (zero_of_info Trym.zero38).1
  have hz25 := (zero_of_info Trym.zero25).1
  have hB0 := hide ((Below.refl w.heap.size w).alloc (Nat.le_refl _) (.cells zero128.toArray 25))
  have hT0 := hide (there_zero128 w)
  have HD1 : Hid (Data .u8 (w.alloc (.cells zero128.toArray 25)).heap.size (w.alloc (.cells zero128.toArray 25)) a zs) := (HD.out.below hB0.out).mono (by simp)
  have hsz : Hid ((w.alloc (.cells zero128.toArray 25)).heap.size = w.heap.size + 1) := by simp [Hid]
  have HC := hide (newPacked_any a cap (w.alloc (.cells zero128.toArray 25)) zs hm HD1)
  have HS : Hid ((Trym.prog.info? 25).map (·.size) = some (padV zs).length) := by rw [padV_length zs hm]; exact Trym.size25
  go_enter Trym.func11, Trym.ntmps11
  go_upto_region 2 with (first | (go_at_call 22; refine HC.out.mono ?_; rintro e w1 ⟨rfl, hb1⟩; have HB1 := hide (zz_pre hb1); clear hb1) | (refine wpList_whole38 rfl (.tmp 4) (.tmp 6) rfl (w.alloc (.cells zero128.toArray 25)) (w.heap.size + 1) w1.heap.size (packV zs) rfl rfl (packV_length zs hm) (packV_one zs) (there_zero w1) HB1.out.1 HB1.out.2 ?_; intro w5 hr5 hb5))
  have c0 := range_head hr5.out
  have c1 := range_tail hr5.out
  have c2 := there_below hT0.out hb5.out (by omega)
  have hpq : Hid (w1.heap.size ≠ w.heap.size) := by have := HB1.out.1; simp only [Hid]; omega
  have HB5 := hide (hB0.out.trans (hb5.out.mono (by omega)))
  clear hr5 hb5 HB1 HC hz38 hz25 hB0 hT0 HD1 hsz HD
  obtain ⟨p, hp⟩ : ∃ p, p = w1.heap.size := ⟨_, rfl⟩
  rw [← hp] at c0 c1 hpq ⊢
  clear hp
  have u25 := Trym.underlying25
  have s25 := HS.out
  have l25 := padV_length zs hm
  have o25 := padV_one zs
  go_region_held (fun w' => w'.cell? ⟨p, 0, none⟩ = some (.int .u8 zs.length) ∧ w'.rangeAt p 1 (padV zs) ∧ w'.there w.heap.size 0 128) (first | exact keep_draw ⟨c0, c1, c2⟩ | exact keep_put _ hpq.out (by assumption)) (fail)
  all_goals
    have HR6 := hide (World.rangeAt_setCells_same w5.drew w.heap.size 0 (padV zs) (by rw [l25]; simpa using c2))
    have HB6 := hide (below_setCells HB5.out.drew (Nat.le_refl _) 0 (padV zs))
    obtain ⟨w6, hw6⟩ : ∃ w6, w6 = w5.drew.setCells w.heap.size 0 (padV zs) := ⟨_, rfl⟩
    rw [← hw6] at HR6 HB6 ⊢
    clear hw6 c0 c1 c2
    go_wp2
    exact bodyPost_ret (results_tmp_cell (fn := Trym.f11) (u := 2) (p := 3) (ty := 25) rfl _ _ ⟨w.heap.size, 0, none⟩ rfl _ (run_loadVar_mid w6 w.heap.size 0 25 (padV zs) _ HR6.out Trym.underlying25 rfl HS.out)) rfl ⟨rfl, HB6.out⟩

end Go.Proofs.Qxb6000937aMods
