/-
  The walk of ZZForget.
-/
import Derived.Test.Qxb6000937aModsForget
import Derived.Deep.RegionHeld
namespace Go.Proofs.Qxb6000937aMods
open Go.RowKit
set_option linter.unusedSimpArgs false
set_option linter.unusedVariables false

theorem Trym.info45 : (Trym.prog.info? 45).map (fun i => (i.zero, i.size, i.bytes)) = some (some (.agg #[.int .i64 0, .int .i64 0]), 2, 16) := by kernel_rfl

/-- The window's struct in block p; of the counts in block g the first k are laid. -/
structure Lay (w0 : World) (p g : Nat) (win sl : Int) (cv : Value) (zs ns : List Int) (k : Nat) (w : World) : Prop where
  bel : Below w0.heap.size w0 w
  c1 : w.cell? ⟨p, 1, none⟩ = some (.int .i64 win)
  c2 : w.cell? ⟨p, 2, none⟩ = some (.int .i64 sl)
  c3 : w.cell? ⟨p, 3, none⟩ = some cv
  fz : w.frozen? ⟨p, 3, none⟩ = false
  st : ∀ i, i < k → w.cell? ⟨g, i * 2, none⟩ = some (.int .i64 (zs.getD i 0))
  nm : ∀ i, i < k → w.cell? ⟨g, i * 2 + 1, none⟩ = some (.int .i64 (ns.getD i 0))
  th : ∀ i, i < zs.length * 2 → (∃ v, w.cell? ⟨g, i, none⟩ = some v) ∧ w.frozen? ⟨g, i, none⟩ = false

theorem Lay.start {w w1 : World} {cs : List Value} (win sl : Int) (zs ns : List Int) (hO : w1.ownsRow w.heap.size 45 2 (.slice (some ⟨w.heap.size, 0, none⟩) zs.length zs.length) zs.length cs) (hG : w.grownBy w1 none) :
    Lay w w1.heap.size w.heap.size win sl (.slice (some ⟨w.heap.size, 0, none⟩) zs.length zs.length) zs ns 0 (w1.alloc (.cells #[.int .i64 0, .int .i64 win, .int .i64 sl, .slice (some ⟨w.heap.size, 0, none⟩) zs.length zs.length] 43)) := by
  have hlt := (hO.lt w.heap.size rfl).2
  have hb : Below w.heap.size w w1 := (Below.refl _ _).grown hG (Nat.le_refl _) (fun k e => by cases e)
  refine ⟨hb.alloc hb.size _, by simp [go_sem], by simp [go_sem], by simp [go_sem], by simp [go_sem], fun i h => by omega, fun i h => by omega, fun i hi => ?_⟩
  have hc := hO.cellAt i hi
  obtain ⟨v, hv⟩ : ∃ v, cs[i]? = some v := ⟨cs[i]'(by rw [hO.1]; exact hi), by simp⟩
  rw [hv] at hc
  exact ⟨⟨v, by rw [World.cell?_alloc_lt _ _ _ hlt]; exact hc⟩, by rw [World.frozen?_alloc_past _ _ _ hlt]; exact hO.frozenAt i⟩
theorem Lay.drewN {w0 w : World} {p g : Nat} {win sl : Int} {cv : Value} {zs ns : List Int} {k : Nat} (h : Lay w0 p g win sl cv zs ns k w) (n : Nat) : Lay w0 p g win sl cv zs ns k (w.drewN n) :=
  ⟨below_drewN h.bel n, by simpa using h.c1, by simpa using h.c2, by simpa using h.c3, by simpa using h.fz, fun i hi => by simpa using h.st i hi, fun i hi => by simpa using h.nm i hi, fun i hi => by simpa using h.th i hi⟩
theorem Lay.drew {w0 w : World} {p g : Nat} {win sl : Int} {cv : Value} {zs ns : List Int} {k : Nat} (h : Lay w0 p g win sl cv zs ns k w) : Lay w0 p g win sl cv zs ns k w.drew := h.drewN 1
theorem Lay.step {w0 w : World} {p g : Nat} {win sl : Int} {cv : Value} {zs ns : List Int} {k : Nat} (h : Lay w0 p g win sl cv zs ns k w) (hg : w0.heap.size ≤ g) (hpg : p ≠ g) (hk : k < zs.length) :
    Lay w0 p g win sl cv zs ns (k + 1) ((w.setCell ⟨g, k * 2, none⟩ (.int .i64 (zs.getD k 0))).setCell ⟨g, k * 2 + 1, none⟩ (.int .i64 (ns.getD k 0))) := by
  obtain ⟨⟨v1, hv1⟩, _⟩ := h.th (k * 2) (by omega)
  obtain ⟨⟨v2, hv2⟩, _⟩ := h.th (k * 2 + 1) (by omega)
  have hv2' : (w.setCell ⟨g, k * 2, none⟩ (.int .i64 (zs.getD k 0))).cell? ⟨g, k * 2 + 1, none⟩ = some v2 := by
    rw [World.cell?_setCell_other _ _ _ _ (by simp)]; exact hv2
  have oth : ∀ (q : Addr), q.block ≠ g ∨ (q.off ≠ k * 2 ∧ q.off ≠ k * 2 + 1) → ((w.setCell ⟨g, k * 2, none⟩ (.int .i64 (zs.getD k 0))).setCell ⟨g, k * 2 + 1, none⟩ (.int .i64 (ns.getD k 0))).cell? q = w.cell? q := by
    intro q hq
    rw [World.cell?_setCell_other _ _ _ _ (fun e => by subst e; simp at hq), World.cell?_setCell_other _ _ _ _ (fun e => by subst e; simp at hq)]
  refine ⟨(h.bel.setCell hg _).setCell hg _, ?_, ?_, ?_, ?_, ?_, ?_, ?_⟩
  · rw [oth _ (.inl hpg)]; exact h.c1
  · rw [oth _ (.inl hpg)]; exact h.c2
  · rw [oth _ (.inl hpg)]; exact h.c3
  · rw [World.frozen?_setCell, World.frozen?_setCell]; exact h.fz
  · intro i hi
    by_cases e : i = k
    · subst e
      rw [World.cell?_setCell_other _ _ _ _ (by simp), World.cell?_setCell_same _ _ _ hv1]
    · rw [oth _ (.inr ⟨by show i * 2 ≠ _; omega, by show i * 2 ≠ _; omega⟩)]; exact h.st i (by omega)
  · intro i hi
    by_cases e : i = k
    · subst e
      exact World.cell?_setCell_same _ _ _ hv2'
    · rw [oth _ (.inr ⟨by show i * 2 + 1 ≠ _; omega, by show i * 2 + 1 ≠ _; omega⟩)]; exact h.nm i (by omega)
  · intro i hi
    obtain ⟨⟨v, hv⟩, hf⟩ := h.th i hi
    refine ⟨?_, by rw [World.frozen?_setCell, World.frozen?_setCell]; exact hf⟩
    by_cases e1 : i = k * 2 + 1
    · subst e1
      exact ⟨_, World.cell?_setCell_same _ _ _ hv2'⟩
    · by_cases e2 : i = k * 2
      · subst e2
        exact ⟨_, by rw [World.cell?_setCell_other _ _ _ _ (by simp), World.cell?_setCell_same _ _ _ hv1]⟩
      · exact ⟨v, by rw [oth _ (.inr ⟨e2, e1⟩)]; exact hv⟩
theorem Lay.win {w0 w : World} {p g : Nat} {win sl : Int} {cv : Value} {zs ns : List Int} {k : Nat} (h : Lay w0 p g win sl cv zs ns k w) (hk : zs.length ≤ k) : Win w0 p g win sl cv zs ns w :=
  ⟨h.bel, h.c1, h.c2, h.c3, h.fz, fun i hi => h.st i (by omega), fun i hi => h.nm i (by omega)⟩

/-- The two slices that are read out: of each the first k are laid; what was there before them is as it was. -/
structure Two (w3 : World) (m : Nat) (xs ys : List Int) (k : Nat) (w : World) : Prop where
  bel : Below w3.heap.size w3 w
  d1 : ∀ i, i < k → w.cell? ⟨w3.heap.size, i, none⟩ = some (.int .i64 (xs.getD i 0))
  d2 : ∀ i, i < k → w.cell? ⟨w3.heap.size + 1, i, none⟩ = some (.int .i64 (ys.getD i 0))
  t1 : ∀ i, i < m → (∃ v, w.cell? ⟨w3.heap.size, i, none⟩ = some v) ∧ w.frozen? ⟨w3.heap.size, i, none⟩ = false
  t2 : ∀ i, i < m → (∃ v, w.cell? ⟨w3.heap.size + 1, i, none⟩ = some v) ∧ w.frozen? ⟨w3.heap.size + 1, i, none⟩ = false

theorem made_there (w : World) (n : Nat) : ∀ i, i < n → (∃ v, (w.alloc (.cells (madeCells #[.int .i64 0] n) 2)).cell? ⟨w.heap.size, i, none⟩ = some v) ∧ (w.alloc (.cells (madeCells #[.int .i64 0] n) 2)).frozen? ⟨w.heap.size, i, none⟩ = false := by
  intro i hi
  have hrow : (w.alloc (.cells (madeCells #[.int .i64 0] n) 2)).heap[w.heap.size]? = some (.cells (List.replicate n (Value.int .i64 0)).toArray 2 (0, 0)) := by
    rw [heap_alloc_new]
    congr 2
    rw [← toList_madeCells_one]
  refine ⟨⟨.int .i64 0, ?_⟩, frozen_of_row _ _ _ _ _ hrow⟩
  rw [cell_of_row _ _ i _ 2 (0, 0) hrow]
  simp [hi]
theorem Two.start (w : World) (m : Nat) (xs ys : List Int) : Two w m xs ys 0 ((w.alloc (.cells (madeCells #[.int .i64 0] m) 2)).alloc (.cells (madeCells #[.int .i64 0] m) 2)) := by
  have hz : (w.alloc (.cells (madeCells #[.int .i64 0] m) 2)).heap.size = w.heap.size + 1 := by simp
  refine ⟨((Below.refl _ _).alloc (Nat.le_refl _) _).alloc (by simp) _, fun i h => by omega, fun i h => by omega, fun i hi => ?_, fun i hi => ?_⟩
  · obtain ⟨⟨v, hv⟩, hf⟩ := made_there w m i hi
    exact ⟨⟨v, by rw [World.cell?_alloc_lt _ _ _ (by rw [hz]; exact Nat.lt_succ_self _)]; exact hv⟩, by rw [World.frozen?_alloc_past _ _ _ (by rw [hz]; exact Nat.lt_succ_self _)]; exact hf⟩
  · have := made_there (w.alloc (.cells (madeCells #[.int .i64 0] m) 2)) m i hi
    rw [hz] at this
    exact this
theorem Two.step {w3 w : World} {m : Nat} {xs ys : List Int} {k : Nat} (h : Two w3 m xs ys k w) (hk : k < m) :
    Two w3 m xs ys (k + 1) ((w.setCell ⟨w3.heap.size, k, none⟩ (.int .i64 (xs.getD k 0))).setCell ⟨w3.heap.size + 1, k, none⟩ (.int .i64 (ys.getD k 0))) := by
  obtain ⟨⟨v1, hv1⟩, _⟩ := h.t1 k hk
  obtain ⟨⟨v2, hv2⟩, _⟩ := h.t2 k hk
  have hv2' : (w.setCell ⟨w3.heap.size, k, none⟩ (.int .i64 (xs.getD k 0))).cell? ⟨w3.heap.size + 1, k, none⟩ = some v2 := by
    rw [World.cell?_setCell_other _ _ _ _ (by simp)]; exact hv2
  refine ⟨(h.bel.setCell (Nat.le_refl _) _).setCell (by simp) _, ?_, ?_, ?_, ?_⟩
  · intro i hi
    rw [World.cell?_setCell_other _ _ _ _ (by simp)]
    by_cases e : i = k
    · subst e; exact World.cell?_setCell_same _ _ _ hv1
    · rw [World.cell?_setCell_other _ _ _ _ (fun q => e (by simpa using q.symm))]; exact h.d1 i (by omega)
  · intro i hi
    by_cases e : i = k
    · subst e; exact World.cell?_setCell_same _ _ _ hv2'
    · rw [World.cell?_setCell_other _ _ _ _ (fun q => e (by simpa using q.symm)), World.cell?_setCell_other _ _ _ _ (by simp)]; exact h.d2 i (by omega)
  · intro i hi
    obtain ⟨⟨u, hu⟩, hf⟩ := h.t1 i hi
    refine ⟨?_, by rw [World.frozen?_setCell, World.frozen?_setCell]; exact hf⟩
    rw [World.cell?_setCell_other _ _ _ _ (by simp)]
    by_cases e : i = k
    · subst e; exact ⟨_, World.cell?_setCell_same _ _ _ hv1⟩
    · exact ⟨u, by rw [World.cell?_setCell_other _ _ _ _ (fun q => e (by simpa using q.symm))]; exact hu⟩
  · intro i hi
    obtain ⟨⟨u, hu⟩, hf⟩ := h.t2 i hi
    refine ⟨?_, by rw [World.frozen?_setCell, World.frozen?_setCell]; exact hf⟩
    by_cases e : i = k
    · subst e; exact ⟨_, World.cell?_setCell_same _ _ _ hv2'⟩
    · exact ⟨u, by rw [World.cell?_setCell_other _ _ _ _ (fun q => e (by simpa using q.symm)), World.cell?_setCell_other _ _ _ _ (by simp)]; exact hu⟩
theorem Two.data1 {w3 w : World} {m : Nat} {xs ys : List Int} {k : Nat} (h : Two w3 m xs ys k w) (hk : xs.length ≤ k) : Data .i64 w.heap.size w (some ⟨w3.heap.size, 0, none⟩) xs := by
  intro i hi
  have hc := h.d1 i (by omega)
  exact ⟨_, rfl, World.block_lt_of_cell? w _ hc, hc⟩
theorem Two.data2 {w3 w : World} {m : Nat} {xs ys : List Int} {k : Nat} (h : Two w3 m xs ys k w) (hk : ys.length ≤ k) : Data .i64 w.heap.size w (some ⟨w3.heap.size + 1, 0, none⟩) ys := by
  intro i hi
  have hc := h.d2 i (by omega)
  exact ⟨_, rfl, World.block_lt_of_cell? w _ hc, hc⟩
theorem drop_at {zs : List Int} {i k : Nat} : (zs.drop i).getD k 0 = zs.getD (i + k) 0 := by simp [List.getD]

set_option maxHeartbeats 1000000 in
theorem ZZForget_any (w : World) (a b : Option Addr) (c d : Nat) (win sl mic : Int) (zs ns : List Int) (hl : ns.length = zs.length) (HA : Hid (Data .i64 w.heap.size w a zs)) (HB : Hid (Data .i64 w.heap.size w b ns))
    (hm : zs.length ≤ 65536) (hw1 : 0 ≤ win) (hw2 : win ≤ lim) (hs1 : 0 ≤ sl) (hs2 : sl ≤ lim) (hz : Hid (∀ i, i < zs.length → -lim ≤ zs.getD i 0 ∧ zs.getD i 0 ≤ lim)) :
    Calls Trym.prog 18 #[.int .i64 win, .int .i64 sl, .slice a zs.length c, .slice b zs.length d, .int .i64 mic] w fun e w' =>
      ∃ i s1 s2 : Nat, e = .returned (.tuple #[.slice (some ⟨s1, 0, none⟩) (zs.length - i) (zs.length - i), .slice (some ⟨s2, 0, none⟩) (zs.length - i) (zs.length - i)]) ∧ i ≤ zs.length ∧
        (∀ j, j < i → dead win sl mic (zs.getD j 0) = true) ∧ (i < zs.length → dead win sl mic (zs.getD i 0) = false) ∧
        Data .i64 w'.heap.size w' (some ⟨s1, 0, none⟩) (zs.drop i) ∧ Data .i64 w'.heap.size w' (some ⟨s2, 0, none⟩) (ns.drop i) ∧ Below w.heap.size w w' := by
  obtain ⟨i45, hi, hz0, hz1, hz2⟩ := info_parts Trym.info45
  have HI := hide hi
  have HZ0 := hide hz0
  have HZ1 := hide hz1
  have HL := hide hl
  have hby : Hid (i45.bytes * zs.length ≤ 281474976710656) := by rw [hz2]; simp only [Hid]; omega
  clear hi hz0 hz1 hz2 hl
  go_enter Trym.func18, Trym.ntmps18
  go_wp2_with (at_make; refine wpList_make_full w rfl (.tmp 28) (.tmp 28) 41 rfl w.heap.size 45 i45 (.agg #[.int .i64 0, .int .i64 0]) 2 Trym.underlying41 HI.out HZ0.out HZ1.out .i64 .i64 _ _ zs.length rfl rfl rfl rfl hby.out (by unfold maxLen; omega) (Nat.le_refl _) ?_; intro w1 hO1 hG1)
  have HLs := hide (Lay.start win sl zs ns hO1 hG1)
  have hpg : w1.heap.size ≠ w.heap.size := by have := (hO1.lt w.heap.size rfl).2; omega
  have hgp : w.heap.size ≠ w1.heap.size := hpg.symm
  clear HI HZ0 HZ1 hby
  obtain ⟨p, hp⟩ : ∃ p, p = w1.heap.size := ⟨_, rfl⟩
  have HP : Hid (w.heap.size ≤ w1.heap.size) := hG1.size
  rw [← hp] at HLs hpg hgp HP ⊢
  clear hp hO1 hG1
  go_loopg [14] zs.length (fun q t wr => ∃ k : Nat, q = zs.length - k ∧ k ≤ zs.length ∧ t = .int .i64 k ∧ Lay w p w.heap.size win sl (.slice (some ⟨w.heap.size, 0, none⟩) zs.length zs.length) zs ns k wr)
  case atStart => exact ⟨0, rfl, by omega, rfl, HLs.out⟩
  case round =>
    obtain ⟨k, hgk, hk, rfl, hL⟩ := hrel
    have HG := hide hgk
    have HLk := hide hL
    clear hgk hL HLs
    by_cases hlt : k < zs.length
    · obtain ⟨b1, rfl, hb1, hc1⟩ := HA.out k hlt
      obtain ⟨b2, rfl, hb2, hc2⟩ := HB.out k (by rw [HL.out]; exact hlt)
      have hk1 : (k : Int) < (zs.length : Int) := by omega
      have x1 : wr.cell? ⟨b1, k, none⟩ = some (.int .i64 (zs.getD k 0)) := by rw [HLk.out.bel.cell (by exact hb1)]; exact hc1
      have x2 : wr.cell? ⟨b2, k, none⟩ = some (.int .i64 (ns.getD k 0)) := by rw [HLk.out.bel.cell (by exact hb2)]; exact hc2
      have x3 := HLk.out.c3
      obtain ⟨⟨v1, y1⟩, f1⟩ := HLk.out.th (k * 2) (by omega)
      obtain ⟨⟨v2, y2⟩, f2⟩ := HLk.out.th (k * 2 + 1) (by omega)
      have n1 : ¬ w.heap.size = b1 := by omega
      have n2 : ¬ w.heap.size = b2 := by omega
      have n3 : ¬ w.heap.size = p := hgp
      clear hc1 hc2
      obtain ⟨X, hX⟩ : ∃ X, X = zs.getD k 0 := ⟨_, rfl⟩
      obtain ⟨Y, hY⟩ : ∃ Y, Y = ns.getD k 0 := ⟨_, rfl⟩
      rw [← hX] at x1
      rw [← hY] at x2
      have HX := hide hX
      have HY := hide hY
      clear hX hY
      go_wp2
      go_region_held (fun w' => w'.cell? ⟨p, 3, none⟩ = some (.slice (some ⟨w.heap.size, 0, none⟩) zs.length zs.length) ∧ w'.cell? ⟨b1, k, none⟩ = some (.int .i64 X) ∧ w'.cell? ⟨b2, k, none⟩ = some (.int .i64 Y)) (go_keep) (fail)
      go_wp2
      go_roundg (zs.length - (k + 1))
      case measure => rw [HG.out]; omega
      case rel => exact ⟨k + 1, rfl, by omega, by go_num, by rw [HX.out, HY.out]; exact (HLk.out.step (Nat.le_refl _) hpg hlt).drew⟩
    · obtain rfl : k = zs.length := by omega
      have HW := hide (HLk.out.win (Nat.le_refl _))
      have hple := HP.out
      clear HLk hlt
      go_wp2_with fail
      refine (forget_any w wr p w.heap.size win sl mic zs ns HW.out hple hpg hm hw1 hw2 hs1 hs2 hz.out).mono ?_
      rintro e w3 ⟨rfl, i, o, hi, hj, ho, hW3⟩
      have HJ := hide hj
      have HO := hide ho
      have HW3 := hide hW3
      clear hj ho hW3 HW
      have c3 := HW3.out.c3
      obtain ⟨m, hm1⟩ : ∃ m, m = zs.length - i := ⟨_, rfl⟩
      rw [← hm1] at c3 HW3
      have hmk := fun w => run_make_row' (P := Trym.prog) 29 2 (.int .i64 0) 8 Trym.underlying29 Trym.info2 rfl .i64 .i64 m (by omega) (by omega) w
      have hp3 := World.block_lt_of_cell? w3 _ c3
      have c3' : ∀ ob, (w3.alloc ob).cell? ⟨p, 3, none⟩ = some (.slice (some ⟨w.heap.size, o, none⟩) m m) := fun ob => by rw [World.cell?_alloc_lt _ _ _ hp3]; exact c3
      have HM := hide hm1
      have hm2 : m ≤ 65536 := by omega
      clear hm1
      go_wp2
      have HT := hide (Two.start w3 m (zs.drop i) (ns.drop i))
      clear c3' hmk
      go_loopg [17] m (fun q t wr => ∃ k : Nat, q = m - k ∧ k ≤ m ∧ t = .int .i64 k ∧ Two w3 m (zs.drop i) (ns.drop i) k wr)
      case atStart => exact ⟨0, rfl, by omega, rfl, HT.out⟩
      case round =>
        obtain ⟨k, hgk, hk2, rfl, hT⟩ := hrel
        have HG2 := hide hgk
        have HTk := hide hT
        clear hgk hT HT
        have c3q : wr.cell? ⟨p, 3, none⟩ = some (.slice (some ⟨w.heap.size, o, none⟩) m m) := by rw [HTk.out.bel.cell (by exact hp3)]; exact c3
        clear c3
        by_cases hlt : k < m
        · have hin : i < zs.length := by have := HM.out; omega
          obtain ⟨hdi, rfl⟩ := HO.out hin
          have x1 := HW3.out.st (i + k) (by have := HM.out; omega)
          have x2 := HW3.out.nm (i + k) (by have := HM.out; omega)
          have hg3 := World.block_lt_of_cell? w3 _ x1
          have y1 : wr.cell? ⟨w.heap.size, i * 2 + k * 2, none⟩ = some (.int .i64 ((zs.drop i).getD k 0)) := by rw [HTk.out.bel.cell (by exact hg3), drop_at, ← x1, Nat.add_mul]
          have y2 : wr.cell? ⟨w.heap.size, i * 2 + k * 2 + 1, none⟩ = some (.int .i64 ((ns.drop i).getD k 0)) := by rw [HTk.out.bel.cell (by exact hg3), drop_at, ← x2, Nat.add_mul]
          obtain ⟨⟨v1, z1⟩, f1⟩ := HTk.out.t1 k hlt
          obtain ⟨⟨v2, z2⟩, f2⟩ := HTk.out.t2 k hlt
          have n1 : ¬ w3.heap.size = p := by omega
          have n2 : ¬ w3.heap.size = w.heap.size := by have := hg3; simp at this; omega
          clear x1 x2 hg3
          obtain ⟨X, hX⟩ : ∃ X, X = (zs.drop i).getD k 0 := ⟨_, rfl⟩
          obtain ⟨Y, hY⟩ : ∃ Y, Y = (ns.drop i).getD k 0 := ⟨_, rfl⟩
          rw [← hX] at y1
          rw [← hY] at y2
          have HX := hide hX
          have HY := hide hY
          clear hX hY hdi
          go_wp2
          go_roundg (m - (k + 1))
          case measure => rw [HG2.out]; omega
          case rel => exact ⟨k + 1, rfl, by omega, by go_num, by rw [HX.out, HY.out]; exact HTk.out.step hlt⟩
        · obtain rfl : k = m := by omega
          go_wp2
          go_ret2
          refine ⟨i, w3.heap.size, w3.heap.size + 1, by rw [← HM.out]; rfl, hi, HJ.out, fun h => (HO.out h).1, HTk.out.data1 (by rw [List.length_drop, ← HM.out]; exact Nat.le_refl _), HTk.out.data2 (by rw [List.length_drop, HL.out, ← HM.out]; exact Nat.le_refl _), ?_⟩
          exact HW3.out.bel.trans (HTk.out.bel.mono HW3.out.bel.size)

end Go.Proofs.Qxb6000937aMods
