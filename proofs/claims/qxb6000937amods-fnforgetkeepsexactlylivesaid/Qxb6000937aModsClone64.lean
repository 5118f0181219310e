/-
  The walks of cloneInt64s, indexList and the bound's function.
-/
import Derived.Test.Qxb6000937aModsBase
namespace Go.Proofs.Qxb6000937aMods
open Go.RowKit
set_option linter.unusedSimpArgs false
set_option linter.unusedVariables false

theorem Trym.info2 : (Trym.prog.info? 2).map (fun i => (i.zero, i.size, i.bytes)) = some (some (.int .i64 0), 1, 8) := by kernel_rfl

set_option maxHeartbeats 400000 in
theorem clone64_some (x : Addr) (cap : Nat) (w : World) (zs : List Int) (S : Hid (Src0 .i64 w (some x) zs)) (hm : zs.length ≤ 1048576) :
    Calls Trym.prog 16 #[.slice (some x) zs.length cap] w fun e w' => e = .returned (.slice (some ⟨w.heap.size, 0, none⟩) zs.length zs.length) ∧ Below w.heap.size w w' ∧ Data .i64 w'.heap.size w' (some ⟨w.heap.size, 0, none⟩) zs := by
  have heq := fun w => Lib.run_eql_slice_nil (P := Trym.prog) w 29 2 (some x) zs.length cap 0 0 Trym.underlying29
  have hmk := fun w => run_make_row' (P := Trym.prog) 29 2 (.int .i64 0) 8 Trym.underlying29 Trym.info2 rfl .i64 .i64 zs.length (by omega) (by omega) w
  have HF := hide (Fill.start .i64 w zs (.int .i64 0) 2)
  go_enter Trym.func16, Trym.ntmps16
  go_wp2
  go_loopg [4] zs.length (fun n t wr => ∃ k : Nat, n = zs.length - k ∧ k ≤ zs.length ∧ t = .int .i64 k ∧ Fill .i64 w w.heap.size zs k wr)
  case atStart => exact ⟨0, rfl, by omega, rfl, HF.out⟩
  case round =>
    obtain ⟨k, hgk, hk, rfl, hF⟩ := hrel
    have HG := hide hgk
    have HFk := hide hF
    clear hgk hF heq hmk HF
    by_cases hlt : k < zs.length
    · obtain ⟨b, off, hx, hb, hc⟩ := S.out k hlt
      obtain rfl := Option.some.inj hx
      clear hx
      have hcell : wr.cell? ⟨b, off + k, none⟩ = some (.int .i64 (zs.getD k 0)) := by rw [HFk.out.bel.cell (by exact hb)]; exact hc
      obtain ⟨⟨v, hv⟩, hf⟩ := HFk.out.there k hlt
      clear hc
      go_wp2
      go_roundg (zs.length - (k + 1))
      case measure => rw [HG.out]; omega
      case rel => exact ⟨k + 1, rfl, by omega, by go_num, by simpa [List.getD, hlt] using HFk.out.step (Nat.le_refl _) hlt⟩
    · go_wp2
      go_ret
      exact ⟨rfl, HFk.out.bel, HFk.out.data (by omega)⟩

theorem clone64_nil (w : World) : Calls Trym.prog 16 #[.slice none 0 0] w fun e w' => e = .returned (.slice none 0 0) ∧ w = w' := by
  have heq := fun w => Lib.run_eql_slice_nil (P := Trym.prog) w 29 2 none 0 0 0 0 Trym.underlying29
  go_enter Trym.func16, Trym.ntmps16
  go_wp2
  go_ret
  exact ⟨rfl, rfl⟩

/-- cloneInt64s: a copy in new memory, or nil. -/
theorem clone64_any (a : Option Addr) (cap : Nat) (w : World) (zs : List Int) (S : Hid (Src0 .i64 w a zs)) (hm : zs.length ≤ 1048576) (hn : a = none → zs = [] ∧ cap = 0) :
    Calls Trym.prog 16 #[.slice a zs.length cap] w fun e w' => ∃ a' c', e = .returned (.slice a' zs.length c') ∧ Below w.heap.size w w' ∧ Data .i64 w'.heap.size w' a' zs := by
  cases a with
  | none =>
    obtain ⟨rfl, rfl⟩ := hn rfl
    refine (clone64_nil w).mono ?_
    rintro e w' ⟨rfl, rfl⟩
    exact ⟨none, 0, rfl, Below.refl _ _, fun i hi => by simp at hi⟩
  | some x =>
    refine (clone64_some x cap w zs S hm).mono ?_
    rintro e w' ⟨rfl, hb, hd⟩
    exact ⟨_, _, rfl, hb, hd⟩


/-- 0, 1, .. -/
def idx (n : Nat) : List Int := (List.range n).map fun (i : Nat) => (i : Int)
theorem idx_len (n : Nat) : (idx n).length = n := by simp [idx]
theorem idx_at {n i : Nat} (h : i < n) : (idx n).getD i 0 = (i : Int) := by simp [idx, List.getD, h]

set_option maxHeartbeats 400000 in
theorem indexList_any (n : Nat) (w : World) (hm : n ≤ 1048576) :
    Calls Trym.prog 17 #[.int .i64 n] w fun e w' => e = .returned (.slice (some ⟨w.heap.size, 0, none⟩) n n) ∧ Below w.heap.size w w' ∧ Data .i64 w'.heap.size w' (some ⟨w.heap.size, 0, none⟩) (idx n) := by
  have hmk := fun w => run_make_row' (P := Trym.prog) 29 2 (.int .i64 0) 8 Trym.underlying29 Trym.info2 rfl .i64 .i64 n (by omega) (by omega) w
  have HF := hide (Fill.start .i64 w (idx n) (.int .i64 0) 2)
  rw [idx_len] at HF
  go_enter Trym.func17, Trym.ntmps17
  go_wp2
  go_loopg [4] n (fun q t wr => ∃ k : Nat, q = n - k ∧ k ≤ n ∧ t = .int .i64 k ∧ Fill .i64 w w.heap.size (idx n) k wr)
  case atStart => exact ⟨0, rfl, by omega, rfl, HF.out⟩
  case round =>
    obtain ⟨k, hgk, hk, rfl, hF⟩ := hrel
    have HG := hide hgk
    have HFk := hide hF
    clear hgk hF hmk HF
    by_cases hlt : k < n
    · obtain ⟨⟨v, hv⟩, hf⟩ := HFk.out.there k (by rw [idx_len]; exact hlt)
      go_wp2
      go_roundg (n - (k + 1))
      case measure => rw [HG.out]; omega
      case rel => exact ⟨k + 1, rfl, by omega, by go_num, by have := HFk.out.step (Nat.le_refl _) (by rw [idx_len]; exact hlt); rw [idx_at hlt] at this; exact this⟩
    · go_wp2
      go_ret
      exact ⟨rfl, HFk.out.bel, HFk.out.data (by rw [idx_len]; omega)⟩

theorem zz15_yes (a : Option Addr) (len cap : Nat) (x y z : Int) (w : World) (h : len ≤ 1048576) :
    Calls Trym.prog 15 #[.slice a len cap, .int .i64 x, .int .i64 y, .int .i64 z] w fun e w' => e = .returned (.bool true) ∧ w = w' := by
  go_enter Trym.func15, Trym.ntmps15
  go_wp2
  go_ret
  exact ⟨rfl, rfl⟩
theorem zz15_no (a : Option Addr) (len cap : Nat) (x y z : Int) (w : World) (h : 1048576 < len) :
    Calls Trym.prog 15 #[.slice a len cap, .int .i64 x, .int .i64 y, .int .i64 z] w fun e w' => e = .returned (.bool false) ∧ w = w' := by
  go_enter Trym.func15, Trym.ntmps15
  go_wp2
  go_ret
  exact ⟨rfl, rfl⟩

end Go.Proofs.Qxb6000937aMods
