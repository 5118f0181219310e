/-
  The walk of (*localWindow).forget.
-/
import Derived.Test.Qxb6000937aModsClone64
namespace Go.Proofs.Qxb6000937aMods
open Go.RowKit
set_option linter.unusedSimpArgs false
set_option linter.unusedVariables false

/-- The numbers of the law's premise: within 2^60 in size. -/
def lim : Int := 1152921504606846976
/-- Has the slice that starts at z left the window? -/
def dead (win sl mic z : Int) : Bool := decide (z + sl + win ≤ mic)

/-- The window's struct lies in block p, its counts in block g: pairs of a start and a count. -/
structure Win (w0 : World) (p g : Nat) (win sl : Int) (cv : Value) (zs ns : List Int) (w : World) : Prop where
  bel : Below w0.heap.size w0 w
  c1 : w.cell? ⟨p, 1, none⟩ = some (.int .i64 win)
  c2 : w.cell? ⟨p, 2, none⟩ = some (.int .i64 sl)
  c3 : w.cell? ⟨p, 3, none⟩ = some cv
  fz : w.frozen? ⟨p, 3, none⟩ = false
  st : ∀ i, i < zs.length → w.cell? ⟨g, i * 2, none⟩ = some (.int .i64 (zs.getD i 0))
  nm : ∀ i, i < zs.length → w.cell? ⟨g, i * 2 + 1, none⟩ = some (.int .i64 (ns.getD i 0))

theorem Win.drewN {w0 w : World} {p g : Nat} {win sl : Int} {cv : Value} {zs ns : List Int} (h : Win w0 p g win sl cv zs ns w) (n : Nat) : Win w0 p g win sl cv zs ns (w.drewN n) :=
  ⟨below_drewN h.bel n, by simpa using h.c1, by simpa using h.c2, by simpa using h.c3, by simpa using h.fz, fun i hi => by simpa using h.st i hi, fun i hi => by simpa using h.nm i hi⟩

theorem dead_yes {win sl mic z : Int} (h : z + sl + win ≤ mic) : dead win sl mic z = true := by simp [dead, h]
theorem dead_no {win sl mic z : Int} (h : ¬ z + sl + win ≤ mic) : dead win sl mic z = false := by simp [dead, h]
theorem dead_next {win sl mic z : Int} {zs : List Int} {k : Nat} (h : ∀ j, j < k → dead win sl mic (zs.getD j 0) = true) (hd : dead win sl mic z = true) (hz : z = zs.getD k 0) : ∀ j, j < k + 1 → dead win sl mic (zs.getD j 0) = true := by
  intro j hj
  by_cases e : j < k
  · exact h j e
  · obtain rfl : j = k := by omega
    rw [← hz]; exact hd
theorem Win.cut {w0 w : World} {p g : Nat} {win sl : Int} {cv : Value} {zs ns : List Int} (h : Win w0 p g win sl cv zs ns w) (hp : w0.heap.size ≤ p) (hpg : p ≠ g) (cv' : Value) : Win w0 p g win sl cv' zs ns (w.setCell ⟨p, 3, none⟩ cv') := by
  refine ⟨h.bel.setCell hp _, ?_, ?_, ?_, ?_, ?_, ?_⟩
  · rw [World.cell?_setCell_other _ _ _ _ (by simp)]; exact h.c1
  · rw [World.cell?_setCell_other _ _ _ _ (by simp)]; exact h.c2
  · exact World.cell?_setCell_same _ _ _ h.c3
  · rw [World.frozen?_setCell]; exact h.fz
  · intro i hi
    rw [World.cell?_setCell_other _ _ _ _ (fun e => hpg (by simpa using (congrArg Addr.block e)))]; exact h.st i hi
  · intro i hi
    rw [World.cell?_setCell_other _ _ _ _ (fun e => hpg (by simpa using (congrArg Addr.block e)))]; exact h.nm i hi

set_option maxHeartbeats 1000000 in
theorem forget_any (w0 w : World) (p g : Nat) (win sl mic : Int) (zs ns : List Int) (h : Win w0 p g win sl (.slice (some ⟨g, 0, none⟩) zs.length zs.length) zs ns w) (hp : w0.heap.size ≤ p) (hpg : p ≠ g)
    (hm : zs.length ≤ 65536) (hw1 : 0 ≤ win) (hw2 : win ≤ lim) (hs1 : 0 ≤ sl) (hs2 : sl ≤ lim) (hz : ∀ i, i < zs.length → -lim ≤ zs.getD i 0 ∧ zs.getD i 0 ≤ lim) :
    Calls Trym.prog 23 #[.pointer (some ⟨p, 0, none⟩), .int .i64 mic] w fun e w' => e = .returned (.tuple #[]) ∧
      ∃ i o : Nat, i ≤ zs.length ∧ (∀ j, j < i → dead win sl mic (zs.getD j 0) = true) ∧ (i < zs.length → dead win sl mic (zs.getD i 0) = false ∧ o = i * 2) ∧
        Win w0 p g win sl (.slice (some ⟨g, o, none⟩) (zs.length - i) (zs.length - i)) zs ns w' := by
  have HZ := hide hz
  clear hz
  unfold lim at hw2 hs2
  go_enter Trym.func23, Trym.ntmps23
  go_wp2
  go_loopg [4] zs.length (fun q t wr => ∃ k : Nat, q = zs.length - k ∧ k ≤ zs.length ∧ t = .int .i64 k ∧ (∀ j, j < k → dead win sl mic (zs.getD j 0) = true) ∧ Win w0 p g win sl (.slice (some ⟨g, 0, none⟩) zs.length zs.length) zs ns wr)
  case atStart => exact ⟨0, rfl, by omega, rfl, fun j h => by omega, h⟩
  case round =>
    obtain ⟨k, hgk, hk, rfl, hj, hW⟩ := hrel
    have HG := hide hgk
    have HJ := hide hj
    have HW := hide hW
    clear hgk hj hW h
    obtain ⟨_, c1, c2, c3, fz, st, nm⟩ := HW.out
    have HS := hide st
    clear nm st
    by_cases hlt : k < zs.length
    · have hc := HS.out k hlt
      have hzr := HZ.out k hlt
      unfold lim at hzr
      obtain ⟨z, hz⟩ : ∃ z, z = zs.getD k 0 := ⟨_, rfl⟩
      rw [← hz] at hc hzr
      have HZk := hide hz
      clear hz
      obtain ⟨hz1, hz2⟩ := hzr
      have hk1 : (k : Int) < (zs.length : Int) := by omega
      by_cases hdd : z + sl + win ≤ mic
      · have HD := hide (dead_yes hdd)
        go_wp2
        go_quiet (fail)
        go_wp2
        go_roundg (zs.length - (k + 1))
        case measure => rw [HG.out]; omega
        case rel => exact ⟨k + 1, rfl, by omega, by go_num, dead_next HJ.out HD.out HZk.out, HW.out.drewN _⟩
      · have HD := hide (dead_no hdd)
        have hdd' : decide (z + sl + win ≤ mic) = false := by simpa using hdd
        clear hdd
        have hkn : ¬ zs.length = k := by omega
        go_wp2
        go_quiet (fail)
        go_wp2
        go_end0
        exact ⟨rfl, k, k * 2, hk, HJ.out, fun _ => ⟨by rw [← HZk.out]; exact HD.out, rfl⟩, (HW.out.drewN _).cut hp hpg _⟩
    · have hkd : decide (k < zs.length) = false := by simpa using hlt
      obtain rfl : k = zs.length := by omega
      go_wp2
      go_quiet (fail)
      go_wp2
      go_end0
      exact ⟨rfl, zs.length, 0, Nat.le_refl _, HJ.out, fun h => absurd h (Nat.lt_irrefl _), by rw [Nat.sub_self]; exact (HW.out.drewN _).cut hp hpg _⟩

end Go.Proofs.Qxb6000937aMods
