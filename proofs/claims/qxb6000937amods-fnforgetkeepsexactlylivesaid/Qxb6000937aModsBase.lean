/-
  The shared walks of the seat: cloneBytes, newPackedArg, ZZNewPackedArg.
-/
import Derived.Test.Qxb6000937aModsRows
import Derived.WalkKit
import Derived.WalkSpells
import Derived.WalkLawsBesides
import Derived.Deep.QuietTactic
import Derived.BigQuiet
import Derived.RegionTactic
import Derived.ChangeAlike
import Derived.Deep.LoopGhost
import Derived.Deep.OwnRows
import Derived.Deep.MidRow
import Derived.Deep.DeepCutAuto
import Derived.Deep.WholeRow
import Derived.Laws.CopyOwn
namespace Go.Proofs.Qxb6000937aMods
open Go.RowKit
set_option linter.unusedSimpArgs false
set_option linter.unusedVariables false

theorem hide {p : Prop} (h : p) : Hid p := h
theorem Trym.info5 : (Trym.prog.info? 5).map (fun i => (i.zero, i.size, i.bytes)) = some (some (.int .u8 0), 1, 1) := by kernel_rfl
theorem Trym.size5 : (Trym.prog.info? 5).map (·.size) = some 1 := by kernel_rfl

/-- The numbers 'zs' lie at the head of a block below B. -/
def Data (k : IntKind) (B : Nat) (w : World) (a : Option Addr) (zs : List Int) : Prop :=
  ∀ i, i < zs.length → ∃ g, a = some ⟨g, 0, none⟩ ∧ g < B ∧ w.cell? ⟨g, i, none⟩ = some (.int k (zs.getD i 0))

theorem Data.below {k : IntKind} {B : Nat} {w w' : World} {a : Option Addr} {zs : List Int} (h : Data k B w a zs) (hb : Below B w w') : Data k B w' a zs := by
  intro i hi
  obtain ⟨g, h1, h2, h3⟩ := h i hi
  exact ⟨g, h1, h2, by rw [hb.cell (by exact h2)]; exact h3⟩
theorem Data.mono {k : IntKind} {B B' : Nat} {w : World} {a : Option Addr} {zs : List Int} (h : Data k B w a zs) (hb : B ≤ B') : Data k B' w a zs := by
  intro i hi
  obtain ⟨g, h1, h2, h3⟩ := h i hi
  exact ⟨g, h1, by omega, h3⟩
theorem Data.drewN {k : IntKind} {B : Nat} {w : World} {a : Option Addr} {zs : List Int} (h : Data k B w a zs) (n : Nat) : Data k B (w.drewN n) a zs := by
  intro i hi
  obtain ⟨g, h1, h2, h3⟩ := h i hi
  exact ⟨g, h1, h2, by simpa using h3⟩

/-- An argument of numbers, as it lies in w: nil, or numbers behind an address. -/
def Src0 (k : IntKind) (w : World) (ao : Option Addr) (ys : List Int) : Prop :=
  ∀ i, i < ys.length → ∃ b off, ao = some ⟨b, off, none⟩ ∧ b < w.heap.size ∧ w.cell? ⟨b, off + i, none⟩ = some (.int k (ys.getD i 0))

/-- The first k of the numbers zs stand in block g; all its cells may be written; below B all is as it was. -/
structure Fill (kd : IntKind) (w0 : World) (g : Nat) (zs : List Int) (k : Nat) (w : World) : Prop where
  bel : Below w0.heap.size w0 w
  done : ∀ i, i < k → w.cell? ⟨g, i, none⟩ = some (.int kd (zs.getD i 0))
  there : ∀ i, i < zs.length → (∃ v, w.cell? ⟨g, i, none⟩ = some v) ∧ w.frozen? ⟨g, i, none⟩ = false

theorem Fill.start (kd : IntKind) (w : World) (zs : List Int) (z : Value) (e : TypeId) : Fill kd w w.heap.size zs 0 (w.alloc (.cells (madeCells #[z] zs.length) e)) := by
  have hrow : (w.alloc (.cells (madeCells #[z] zs.length) e)).heap[w.heap.size]? = some (.cells (List.replicate zs.length z).toArray e (0, 0)) := by
    rw [heap_alloc_new]
    congr 2
    rw [← toList_madeCells_one]
  refine ⟨(Below.refl _ _).alloc (Nat.le_refl _) _, fun i h => by omega, fun i hi => ⟨⟨z, ?_⟩, frozen_of_row _ _ _ _ _ hrow⟩⟩
  rw [cell_of_row _ _ i _ e (0, 0) hrow]
  simp [hi]
theorem Fill.step {kd : IntKind} {w0 w : World} {g : Nat} {zs : List Int} {k : Nat} (h : Fill kd w0 g zs k w) (hg : w0.heap.size ≤ g) (hk : k < zs.length) : Fill kd w0 g zs (k + 1) (w.setCell ⟨g, k, none⟩ (.int kd (zs.getD k 0))) := by
  obtain ⟨⟨v, hv⟩, _⟩ := h.there k hk
  refine ⟨h.bel.setCell hg _, ?_, ?_⟩
  · intro i hi
    by_cases e : i = k
    · subst e
      exact World.cell?_setCell_same _ _ _ hv
    · rw [World.cell?_setCell_other _ _ _ _ (fun h => e (by simpa using h.symm))]
      exact h.done i (by omega)
  · intro i hi
    obtain ⟨⟨u, hu⟩, hf⟩ := h.there i hi
    refine ⟨?_, by rw [World.frozen?_setCell]; exact hf⟩
    by_cases e : i = k
    · subst e
      exact ⟨_, World.cell?_setCell_same _ _ _ hv⟩
    · exact ⟨u, by rw [World.cell?_setCell_other _ _ _ _ (fun h => e (by simpa using h.symm))]; exact hu⟩
theorem Fill.data {kd : IntKind} {w0 w : World} {zs : List Int} {k : Nat} (h : Fill kd w0 w0.heap.size zs k w) (hk : zs.length ≤ k) : Data kd w.heap.size w (some ⟨w0.heap.size, 0, none⟩) zs := by
  intro i hi
  have hc := h.done i (by omega)
  exact ⟨w0.heap.size, rfl, World.block_lt_of_cell? w _ hc, hc⟩

set_option maxHeartbeats 400000 in
theorem clone_some (x : Addr) (cap : Nat) (w : World) (zs : List Int) (S : Hid (Src0 .u8 w (some x) zs)) (hm : zs.length ≤ 1048576) :
    Calls Trym.prog 10 #[.slice (some x) zs.length cap] w fun e w' => e = .returned (.slice (some ⟨w.heap.size, 0, none⟩) zs.length zs.length) ∧ Below w.heap.size w w' ∧ Data .u8 w'.heap.size w' (some ⟨w.heap.size, 0, none⟩) zs := by
  have heq := fun w => Lib.run_eql_slice_nil (P := Trym.prog) w 22 5 (some x) zs.length cap 0 0 Trym.underlying22
  have hmk := fun w => run_make_row' (P := Trym.prog) 22 5 (.int .u8 0) 1 Trym.underlying22 Trym.info5 rfl .i64 .i64 zs.length (by omega) (by omega) w
  have HF := hide (Fill.start .u8 w zs (.int .u8 0) 5)
  go_enter Trym.func10, Trym.ntmps10
  go_wp2
  go_loopg [4] zs.length (fun n t wr => ∃ k : Nat, n = zs.length - k ∧ k ≤ zs.length ∧ t = .int .i64 k ∧ Fill .u8 w w.heap.size zs k wr)
  case atStart => exact ⟨0, rfl, by omega, rfl, HF.out⟩
  case round =>
    obtain ⟨k, hgk, hk, rfl, hF⟩ := hrel
    have HG := hide hgk
    have HFk := hide hF
    clear hgk hF heq hmk HF
    by_cases hlt : k < zs.length
    · obtain ⟨b, off, hx, hb, hc⟩ := S.out k hlt
      obtain rfl := Option.some.inj hx
      clear hx
      have hcell : wr.cell? ⟨b, off + k, none⟩ = some (.int .u8 (zs.getD k 0)) := by rw [HFk.out.bel.cell (by exact hb)]; exact hc
      obtain ⟨⟨v, hv⟩, hf⟩ := HFk.out.there k hlt
      clear hc
      go_wp2
      go_roundg (zs.length - (k + 1))
      case measure => rw [HG.out]; omega
      case rel => exact ⟨k + 1, rfl, by omega, by go_num, by simpa [List.getD, hlt] using HFk.out.step (Nat.le_refl _) hlt⟩
    · go_wp2
      go_ret
      exact ⟨rfl, HFk.out.bel, HFk.out.data (by omega)⟩

theorem clone_nil (w : World) : Calls Trym.prog 10 #[.slice none 0 0] w fun e w' => e = .returned (.slice none 0 0) ∧ w = w' := by
  have heq := fun w => Lib.run_eql_slice_nil (P := Trym.prog) w 22 5 none 0 0 0 0 Trym.underlying22
  go_enter Trym.func10, Trym.ntmps10
  go_wp2
  go_ret
  exact ⟨rfl, rfl⟩

/-- cloneBytes: a copy in new memory, or nil. -/
theorem clone_any (a : Option Addr) (cap : Nat) (w : World) (zs : List Int) (S : Hid (Src0 .u8 w a zs)) (hm : zs.length ≤ 1048576) (hn : a = none → zs = [] ∧ cap = 0) :
    Calls Trym.prog 10 #[.slice a zs.length cap] w fun e w' => ∃ a' c', e = .returned (.slice a' zs.length c') ∧ Below w.heap.size w w' ∧ Data .u8 w'.heap.size w' a' zs := by
  cases a with
  | none =>
    obtain ⟨rfl, rfl⟩ := hn rfl
    refine (clone_nil w).mono ?_
    rintro e w' ⟨rfl, rfl⟩
    exact ⟨none, 0, rfl, Below.refl _ _, fun i hi => by simp at hi⟩
  | some x =>
    refine (clone_some x cap w zs S hm).mono ?_
    rintro e w' ⟨rfl, hb, hd⟩
    exact ⟨_, _, rfl, hb, hd⟩

/-- The bytes of a packed argument, and the argument itself: its length, then its bytes. -/
def padV (zs : List Int) : List Value := (zs ++ List.replicate (128 - zs.length) 0).map (Value.int .u8)
def packV (zs : List Int) : List Value := Value.int .u8 zs.length :: padV zs
def zero129 : List Value := List.replicate 129 (.int .u8 0)
def zero128 : List Value := List.replicate 128 (.int .u8 0)
theorem Trym.zero38 : (Trym.prog.info? 38).map (fun i => (i.zero, i.size)) = some (some (.agg zero129.toArray), 129) := by kernel_rfl
theorem Trym.zero25 : (Trym.prog.info? 25).map (fun i => (i.zero, i.size)) = some (some (.agg zero128.toArray), 128) := by kernel_rfl

theorem Trym.size38 : (Trym.prog.info? 38).map (·.size) = some 129 := by kernel_rfl
theorem Trym.size25 : (Trym.prog.info? 25).map (·.size) = some 128 := by kernel_rfl

theorem padV_length (zs : List Int) (h : zs.length ≤ 128) : (padV zs).length = 128 := by simp [padV]; omega
theorem packV_length (zs : List Int) (h : zs.length ≤ 128) : (packV zs).length = 129 := by simp [packV, padV_length zs h]
theorem padV_one (zs : List Int) : ∀ v ∈ padV zs, v.oneCell' = true := by
  intro v hv
  obtain ⟨_, _, rfl⟩ := List.mem_map.1 hv
  rfl
theorem packV_one (zs : List Int) : ∀ v ∈ packV zs, v.oneCell' = true := by
  intro v hv
  rcases List.mem_cons.1 hv with rfl | hv
  · rfl
  · exact padV_one zs v hv
theorem splice_pack (zs : List Int) (h : zs.length ≤ 128) : splice zero129 1 (zs.map (Value.int .u8)) = Value.int .u8 0 :: padV zs := by
  have e : List.drop (1 + zs.length) zero129 = List.replicate (128 - zs.length) (Value.int .u8 0) := by
    rw [zero129, List.drop_replicate]
    congr 1
    omega
  rw [splice, List.length_map, e]
  simp [padV, zero129, List.replicate_succ]

theorem below_setCells {B b : Nat} {w0 w : World} (hb : Below B w0 w) (hB : B ≤ b) (o : Nat) (vs : List Value) : Below B w0 (w.setCells b o vs) := by
  induction vs generalizing o w with
  | nil => exact hb
  | cons v r ih => rw [World.setCells]; exact ih (hb.setCell hB _) (o + 1)

/-- 'copy(p.bytes[:], b)': behind it block p holds a zero and the padded bytes; block r is as it was laid. -/
theorem wpList_packed {W : World} {ops : Array Oper} {rest : List Oper} {o : Oper} {a : Act} {Q : Exit → Act → World → Prop} (hgd : o.guard = none) (d s : Operand)
    (ho : o.op = .call { callee := .builtin .copy, args := #[d, s], argTypes := #[22, 22] }) (w : World) (hW : W = (w.alloc (.cells zero129.toArray 38)).alloc (.cells zero129.toArray 38)) (ao : Option Addr) (cap : Nat) (zs : List Int) (hm : zs.length ≤ 128)
    (hd : a.eval d = .slice (some ⟨w.heap.size + 1, 1, none⟩) 128 128) (hs : a.eval s = .slice ao zs.length cap) (HD : Hid (Data .u8 w.heap.size w ao zs))
    (h : ∀ w', Hid (w'.heap[w.heap.size + 1]? = some (.cells (Value.int .u8 0 :: padV zs).toArray 38 (0, 0))) → Hid (Below (w.heap.size + 1) (w.alloc (.cells zero129.toArray 38)) w') → wpList Trym.prog ops Q rest (a.put o.dst (goInt zs.length)) w') :
    wpList Trym.prog ops Q (o :: rest) a W := by
  subst hW
  have hb1 : Below w.heap.size w (w.alloc (.cells zero129.toArray 38)) := (Below.refl _ _).alloc (Nat.le_refl _) _
  have hb2 : Below w.heap.size w ((w.alloc (.cells zero129.toArray 38)).alloc (.cells zero129.toArray 38)) := hb1.alloc (by simp) _
  have hz : (w.alloc (.cells zero129.toArray 38)).heap.size = w.heap.size + 1 := by simp
  have hg : ((w.alloc (.cells zero129.toArray 38)).alloc (.cells zero129.toArray 38)).heap[w.heap.size + 1]? = some (.cells zero129.toArray 38 (0, 0)) := by
    rw [← hz]; exact heap_alloc_new _ _
  refine wpList_copy_splice hgd d s 22 22 ho 5 Trym.underlying22 Trym.size5 _ _ _ _ _ _ hd hs (w.heap.size + 1) 1 zero129 38 hg (zs.map (Value.int .u8)) (by rw [List.length_map]; exact (Nat.min_eq_left hm).symm) ?_ (by simp [zero129]; omega) ?_ (w.heap.size + 1) (w.alloc (.cells zero129.toArray 38)) ((Below.refl _ _).alloc (by simp) _) (Nat.le_refl _) ?_
  · intro hp
    obtain ⟨g, rfl, _⟩ := HD.out 0 (by simpa using hp)
    refine ⟨rfl, _, rfl, fun j v hv => ?_⟩
    have hj : j < zs.length := by
      have := (List.getElem?_eq_some_iff.1 hv).1
      simpa using this
    obtain ⟨g', hg', hlt, hc⟩ := HD.out j hj
    simp only [Option.some.injEq, Addr.mk.injEq, and_true] at hg'
    subst hg'
    rw [Addr.add_mid, Nat.zero_add, hb2.cell (by exact hlt), hc]
    simp [hj, List.getD] at hv ⊢
    exact hv
  · intro v hv
    obtain ⟨_, _, rfl⟩ := List.mem_map.1 hv
    rfl
  · intro w' hg' hb'
    have hg2 := hg'.out
    rw [splice_pack zs hm] at hg2
    have := h w' hg2 hb'
    simpa using this

theorem rangeAt_pack {w : World} {g : Nat} {zs : List Int} (hg : w.heap[g]? = some (.cells (Value.int .u8 0 :: padV zs).toArray 38 (0, 0))) :
    (w.setCell ⟨g, 0, none⟩ (.int .u8 zs.length)).rangeAt g 0 (packV zs) := by
  intro j v hv
  rw [Nat.zero_add]
  have hc : ∀ i, w.cell? ⟨g, i, none⟩ = (Value.int .u8 0 :: padV zs)[i]? := fun i => by rw [cell_of_row w g i _ 38 (0, 0) hg]; simp
  cases j with
  | zero =>
    have h0 : w.cell? ⟨g, 0, none⟩ = some (.int .u8 0) := by rw [hc]; rfl
    rw [World.cell?_setCell_same _ _ _ h0]
    exact hv
  | succ j =>
    rw [World.cell?_setCell_other _ _ _ _ (by simp), hc]
    exact hv

/-- 'return p': the struct goes whole into the result's block. -/
theorem wpList_whole38 {w : World} {ops : Array Oper} {rest : List Oper} {o : Oper} {a : Act} {Q : Exit → Act → World → Prop} (hgd : o.guard = none) (x y : Operand) (ho : o.op = .store 38 x y)
    (w0 : World) (B r : Nat) (vs : List Value) (hx : a.eval x = .pointer (some ⟨r, 0, none⟩)) (hy : a.eval y = .agg vs.toArray) (hl : vs.length = 129) (h1 : ∀ v ∈ vs, v.oneCell' = true)
    (ht : w.there r 0 129) (hr : B ≤ r) (hb : Below B w0 w)
    (h : ∀ w', Hid (w'.rangeAt r 0 vs) → Hid (Below B w0 w') → wpList Trym.prog ops Q rest (a.put o.dst undef) w') : wpList Trym.prog ops Q (o :: rest) a w := by
  have ht' : w.there r 0 vs.toArray.size := by simpa [hl] using ht
  refine wpList_store_mid hgd 38 x y ho r 0 vs.toArray hx hy ht' (by simpa [hl] using Trym.size38) (all_oneCell_toArray h1) ?_
  refine h _ ?_ ?_
  · exact World.rangeAt_setCells_same w r 0 vs (by simpa [hl] using ht)
  · exact below_setCells hb hr 0 vs

theorem there_zero (w : World) : (w.alloc (.cells zero129.toArray 38)).there w.heap.size 0 129 := by
  intro j hj
  have hg : (w.alloc (.cells zero129.toArray 38)).heap[w.heap.size]? = some (.cells zero129.toArray 38 (0, 0)) := heap_alloc_new _ _
  refine ⟨?_, frozen_of_row _ _ _ _ _ hg⟩
  rw [cell_of_row _ _ _ _ 38 (0, 0) hg]
  simp [zero129, hj]
theorem there_below {B r o n : Nat} {w w' : World} (h : w.there r o n) (hb : Below B w w') (hr : r < B) : w'.there r o n := by
  intro j hj
  obtain ⟨h1, h2⟩ := h j hj
  exact ⟨by rw [hb.cell (by exact hr)]; exact h1, by rw [hb.frozen (by exact hr)]; exact h2⟩
theorem there_setCell {w : World} {r o n : Nat} (h : w.there r o n) (p : Addr) (v : Value) : (w.setCell p v).there r o n := by
  have := World.there_setCells h p.block p.off [v]
  intro j hj
  obtain ⟨h1, h2⟩ := h j hj
  obtain ⟨u, hu⟩ := Option.isSome_iff_exists.1 h1
  refine ⟨?_, by rw [World.frozen?_setCell]; exact h2⟩
  by_cases e : p = ⟨r, o + j, none⟩
  · subst e; rw [World.cell?_setCell_same _ _ _ hu]; rfl
  · rw [World.cell?_setCell_other _ _ _ _ e, hu]; rfl

theorem results_cell {fn : Func} {p : Tmp} {ty : TypeId} (h : fn.results = #[.cell p ty]) (tmps : Array Value) (w : World) (ad : Addr) (ha : tmps.getD p undef = .pointer (some ad)) (v : Value)
    (hl : (loadVar ty ad).run Trym.prog w = .ok v w) : (results fn tmps).run Trym.prog w = .ok v w := by
  have ha' : tmps[p]?.getD undef = .pointer (some ad) := by simpa using ha
  simp [results, h, ha', asAddr, hl]
theorem results_tmp_cell {fn : Func} {u p : Tmp} {ty : TypeId} (h : fn.results = #[.tmp u, .cell p ty]) (tmps : Array Value) (w : World) (ad : Addr) (ha : tmps.getD p undef = .pointer (some ad)) (v : Value)
    (hl : (loadVar ty ad).run Trym.prog w = .ok v w) : (results fn tmps).run Trym.prog w = .ok (.tuple #[tmps.getD u undef, v]) w := by
  have ha' : tmps[p]?.getD undef = .pointer (some ad) := by simpa using ha
  simp [results, h, ha', asAddr, hl]

theorem pack_c0 {w : World} {g : Nat} {zs : List Int} (hg : w.heap[g]? = some (.cells (Value.int .u8 0 :: padV zs).toArray 38 (0, 0))) : w.cell? ⟨g, 0, none⟩ = some (.int .u8 0) := by
  rw [cell_of_row w _ 0 _ 38 (0, 0) hg]; simp

set_option maxHeartbeats 400000 in
theorem newPacked_any (a : Option Addr) (cap : Nat) (w : World) (zs : List Int) (hm : zs.length ≤ 128) (HD : Hid (Data .u8 w.heap.size w a zs)) :
    Calls Trym.prog 22 #[.slice a zs.length cap] w fun e w' => e = .returned (.agg (packV zs).toArray) ∧ Below w.heap.size w w' := by
  have hz := (zero_of_info Trym.zero38).1
  have hT := hide (there_zero w)
  have HS : Hid ((Trym.prog.info? 38).map (·.size) = some (packV zs).length) := by rw [packV_length zs hm]; exact Trym.size38
  have hB0 := hide ((Below.refl w.heap.size w).alloc (Nat.le_refl _) (.cells zero129.toArray 38))
  go_enter Trym.func22, Trym.ntmps22
  go_upto_region 5 with (refine wpList_packed rfl (.tmp 9) (.tmp 10) rfl w rfl a cap zs hm rfl rfl HD ?_; intro w3 hg3 hb3; have c0 := pack_c0 hg3.out; have f0 := frozen_of_row w3 (w.heap.size + 1) 0 _ _ hg3.out)
  have HR := hide (rangeAt_pack hg3.out)
  have HT3 := hide (there_setCell (there_below hT.out hb3.out (by omega)) ⟨w.heap.size + 1, 0, none⟩ (.int .u8 zs.length))
  have HB3 := hide ((hB0.out.trans (hb3.out.mono (by omega))).setCell (p := ⟨w.heap.size + 1, 0, none⟩) (by simp) (.int .u8 zs.length))
  obtain ⟨w4, hw4⟩ : ∃ w4, w4 = w3.setCell ⟨w.heap.size + 1, 0, none⟩ (.int .u8 zs.length) := ⟨_, rfl⟩
  rw [← hw4] at HR HT3 HB3 ⊢
  clear hw4 c0 f0 hg3 hb3
  go_wp2_with (first | (refine wpList_load_mid rfl 38 (.tmp 3) rfl (w.heap.size + 1) 0 rfl (packV zs) _ HR.out Trym.underlying38 rfl HS.out ?_) | (refine wpList_whole38 rfl (.tmp 2) (.tmp 14) rfl w w.heap.size w.heap.size (packV zs) rfl rfl (packV_length zs hm) (packV_one zs) HT3.out (Nat.le_refl _) HB3.out ?_; intro w5 hr5 hb5))
  exact bodyPost_ret (results_cell (fn := Trym.f22) (p := 2) (ty := 38) rfl _ _ ⟨w.heap.size, 0, none⟩ rfl _ (run_loadVar_mid w5 w.heap.size 0 38 (packV zs) _ hr5.out Trym.underlying38 rfl HS.out)) rfl ⟨rfl, hb5.out⟩

end Go.Proofs.Qxb6000937aMods
