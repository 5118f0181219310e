/-
  The buffer that a law makes and appends to, always within its capacity: 'Own', and the two appends as laws for the walk.
-/
import Derived.Test.Qxb6000362aModsSkip
namespace Go.Proofs.Qxb6000362aMods
open Go.RowKit
set_option linter.unusedSimpArgs false
set_option linter.unusedVariables false

/-- Block g, made since w0, holds the n bytes xs and has room for cap. -/
structure Own (w0 : World) (g cap n : Nat) (xs : List Int) (w : World) : Prop where
  bel : Below w0.heap.size w0 w
  len : xs.length = n
  own : w.ownsRow w0.heap.size 5 1 (.slice (some ⟨g, 0, none⟩) n cap) n (xs.map (Value.int .u8))

/-- An argument of bytes, as it lay in w0: nil, or 'm' bytes behind an address. -/
def Src0 (w0 : World) (ao : Option Addr) (m c : Nat) (ys : List Int) : Prop :=
  (ao = none ∧ m = 0 ∧ c = 0 ∧ ys = []) ∨ ∃ x, ao = some x ∧ ys.length = m ∧ ∀ k, k < m → w0.cell? (x.add k) = some (.int .u8 (ys.getD k 0))

theorem Src0.len {w0 : World} {ao : Option Addr} {m c : Nat} {ys : List Int} (h : Src0 w0 ao m c ys) : ys.length = m := by
  rcases h with ⟨_, rfl, _, rfl⟩ | ⟨x, _, h, _⟩
  · rfl
  · exact h

theorem Own.ge {w0 w : World} {g cap n : Nat} {xs : List Int} (h : Own w0 g cap n xs w) : w0.heap.size ≤ g ∧ g < w.heap.size := h.own.lt g rfl

theorem Own.data {w0 w : World} {g cap n : Nat} {xs : List Int} (h : Own w0 g cap n xs w) : Data w.heap.size w (some ⟨g, 0, none⟩) xs := by
  intro k hk
  refine ⟨g, rfl, h.ge.2, ?_⟩
  rw [h.own.cellAt k (by have := h.len; omega)]
  simp [hk, List.getD]

theorem Own.later {w0 w w' : World} {g cap n : Nat} {xs : List Int} (h : Own w0 g cap n xs w) (hg : w.grownBy w' none) : Own w0 g cap n xs w' :=
  ⟨h.bel.grown hg (by have := h.ge; omega) (fun k e => by cases e), h.len, h.own.kept hg (.inr (by simp [Value.ownBlock]))⟩

/-- 'append(data, xs...)' within the capacity. -/
theorem wpList_add {w : World} {ops : Array Oper} {rest : List Oper} {o : Oper} {a : Act} {Q : Exit → Act → World → Prop} (hgd : o.guard = none) (s x : Operand)
    (ho : o.op = .call { callee := .builtin .append, args := #[s, x], argTypes := #[22, 22] }) (w0 : World) (g cap n : Nat) (xs : List Int) (ao : Option Addr) (m c : Nat) (ys : List Int)
    (hs : a.eval s = .slice (some ⟨g, 0, none⟩) n cap) (hx : a.eval x = .slice ao m c) (H : Hid (Own w0 g cap n xs w)) (S : Hid (Src0 w0 ao m c ys)) (hfit : n + m ≤ cap)
    (hK : ∀ w', Hid (Own w0 g cap (n + m) (xs ++ ys) w') → wpList Trym.prog ops Q rest (a.put o.dst (.slice (some ⟨g, 0, none⟩) (n + m) cap)) w') :
    wpList Trym.prog ops Q (o :: rest) a w := by
  obtain ⟨i, hi, hz0, hz1, hz2⟩ := info_parts Trym.info5
  have hO := H.out
  have hl := S.out.len
  refine wpList_append_fits_any w hgd s x 22 ho w0.heap.size 5 i 1 Trym.underlying22 hi hz1 g n cap (xs.map (Value.int .u8)) hs hO.own ao m c (ys.map (Value.int .u8)) hx (by simpa using hl) ?_ ?_ (ints_oneCell _ _) hfit ?_
  · intro h
    rcases S.out with ⟨_, h1, h2, _⟩ | ⟨x, h1, _⟩
    · exact ⟨h1, h2⟩
    · rw [h] at h1; cases h1
  · intro ad had j u hu
    rcases S.out with ⟨h1, _⟩ | ⟨x, h1, h2, h3⟩
    · rw [had] at h1; cases h1
    · rw [had] at h1
      obtain rfl := Option.some.inj h1
      have hj : j < ys.length := by
        have := (List.getElem?_eq_some_iff.1 hu).1
        simpa using this
      have hc := h3 j (by omega)
      rw [hO.bel.cell (World.block_lt_of_cell? w0 _ hc), hc]
      simp [hj, List.getD] at hu ⊢
      exact hu
  · intro w' hown hgrow
    have hge := hO.ge
    refine hK w' ⟨hO.bel.grown hgrow (by omega) (fun k e => by obtain rfl := Option.some.inj e; exact hge.1), by rw [List.length_append, hO.len, hl], ?_⟩
    rw [List.map_append]
    exact hown

/-- 'append(data, z)' within the capacity: the one byte lies in a new block of its own. -/
theorem wpList_add1 {w : World} {ops : Array Oper} {rest : List Oper} {o : Oper} {a : Act} {Q : Exit → Act → World → Prop} (hgd : o.guard = none) (s x : Operand)
    (ho : o.op = .call { callee := .builtin .append, args := #[s, x], argTypes := #[22, 22] }) (w0 : World) (g cap n : Nat) (xs : List Int) (z : Int)
    (hs : a.eval s = .slice (some ⟨g, 0, none⟩) n cap) (hx : a.eval x = .slice (some ⟨w.heap.size, 0, none⟩) 1 1) (H : Hid (Own w0 g cap n xs w)) (hfit : n + 1 ≤ cap)
    (hK : ∀ w', Hid (Own w0 g cap (n + 1) (xs ++ [z]) w') → wpList Trym.prog ops Q rest (a.put o.dst (.slice (some ⟨g, 0, none⟩) (n + 1) cap)) w') :
    wpList Trym.prog ops Q (o :: rest) a (w.alloc (.cells #[.int .u8 z] 5)) := by
  obtain ⟨i, hi, hz0, hz1, hz2⟩ := info_parts Trym.info5
  have hO := H.out.later (World.grownBy_alloc w (.cells #[.int .u8 z] 5) none)
  refine wpList_append_fits _ hgd s x 22 ho w0.heap.size 5 i 1 Trym.underlying22 hi hz1 g n cap (xs.map (Value.int .u8)) hs hO.own _ 1 1 [.int .u8 z] hx rfl (cell_one_new _ _ _) (ints_oneCell .u8 [z]) hfit ?_
  intro w' hown hgrow
  have hge := hO.ge
  refine hK w' ⟨hO.bel.grown hgrow (by omega) (fun k e => by obtain rfl := Option.some.inj e; exact hge.1), by rw [List.length_append, hO.len]; rfl, ?_⟩
  rw [List.map_append]
  exact hown

/-- 'make([]byte, 0, n)'. -/
theorem wpList_room {w : World} {ops : Array Oper} {rest : List Oper} {o : Oper} {a : Act} {Q : Exit → Act → World → Prop} (hgd : o.guard = none) (l c : Operand)
    (ho : o.op = Op.makeSlice 22 l c) (C : Int) (n : Nat) (hl : a.eval l = .int .i64 0) (hc : a.eval c = .int .i64 C) (hC : C = (n : Int)) (hn : n ≤ 1048592)
    (hK : ∀ w', Hid (Own w w.heap.size n 0 [] w') → wpList Trym.prog ops Q rest (a.put o.dst (.slice (some ⟨w.heap.size, 0, none⟩) 0 n)) w') :
    wpList Trym.prog ops Q (o :: rest) a w := by
  obtain ⟨i, hi, hz0, hz1, hz2⟩ := info_parts Trym.info5
  refine wpList_make_own w hgd l c 22 ho w.heap.size 5 i (.int .u8 0) 1 Trym.underlying22 hi hz0 hz1 _ _ C n hl hc hC (by rw [hz2]; omega) (by unfold maxLen; omega) (Nat.le_refl _) ?_
  intro w' hown hgrow
  exact hK w' ⟨(Below.refl _ _).grown hgrow (Nat.le_refl _) (fun k e => by cases e), rfl, hown⟩

end Go.Proofs.Qxb6000362aMods
