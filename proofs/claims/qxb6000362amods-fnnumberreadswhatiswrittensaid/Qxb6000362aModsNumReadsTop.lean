/-
  The walk of FnNumberReadsWhatIsWritten.
-/
import Derived.Test.Qxb6000362aModsNumReads
namespace Go.Proofs.Qxb6000362aMods
open Go.RowKit
set_option linter.unusedSimpArgs false
set_option linter.unusedVariables false

set_option maxRecDepth 100000 in
set_option maxHeartbeats 400000 in
theorem reads_long (a0 a2 a4 a8 a9 : Option Addr) (l0 c0 l2 c2 l4 c4 l8 c8 l9 c9 : Nat) (b1 b3 b5 b6 : Bool) (es : Int) (w : World) (h : 1048576 < l0 + l2 + l4 + l8 + l9) :
    Calls Trym.prog 9 #[.slice a0 l0 c0, .bool b1, .slice a2 l2 c2, .bool b3, .slice a4 l4 c4, .bool b5, .bool b6, .int .i8 es, .slice a8 l8 c8, .slice a9 l9 c9] w fun e w' => e = .returned (.bool true) ∧ Below w.heap.size w w' := by
  go_enter Trym.func9, Trym.ntmps9
  go_wp2_with (go_at_call 25; refine (zz25_no _ _ _ _ _ _ _ _ _ _ _ _ _ _ _ _ _ _ _ _ _ h).mono ?_; rintro e w' ⟨rfl, rfl⟩)
  go_ret
  exact ⟨rfl, Below.refl _ _⟩

def SG (neg : Bool) : List Int := if neg then [45] else []
def FR (f : Bool) (fr : List Int) : List Int := if f then 46 :: wrD false fr else []
def ES (es : Int) : List Int := if es < 0 then [45] else if 0 < es then [43] else []
def EX (x u : Bool) (es : Int) (ex : List Int) : List Int := if x then (if u then 69 else 101) :: (ES es ++ wrD false ex) else []

theorem plain_reads {ps wh fr ex tl : List Int} {l0 n4 : Nat} (neg f x u : Bool) (es : Int) (hp : ps.length = l0) (ht : Ends tl) (hn : (ps ++ SG neg ++ wrD true wh ++ FR f fr ++ EX x u es ex).length = n4) :
    numF (ps ++ SG neg ++ wrD true wh ++ FR f fr ++ EX x u es ex ++ tl) l0 = (true, n4) := by
  have hd : (ps ++ SG neg ++ wrD true wh ++ FR f fr ++ EX x u es ex ++ tl).drop l0 = SG neg ++ (wrD true wh ++ (FR f fr ++ (EX x u es ex ++ tl))) := by
    subst hp
    simp
  have hF : FracT (FR f fr) := by
    cases f
    · exact .inl rfl
    · exact .inr ⟨wrD false fr, rfl, wrD_dg _ _, wrD_pos _ _⟩
  have hX : ExpT (EX x u es ex) := by
    cases x
    · exact .inl rfl
    · refine .inr ⟨if u then 69 else 101, ES es, wrD false ex, rfl, ?_, ?_, wrD_dg _ _, wrD_pos _ _⟩
      · cases u <;> rfl
      · unfold ES
        split
        · exact .inr ⟨45, rfl, rfl⟩
        · split
          · exact .inr ⟨43, rfl, rfl⟩
          · exact .inl rfl
  have hS : SG neg = [] ∨ SG neg = [45] := by cases neg <;> simp [SG]
  rw [numF_at hd hS (wrD_dg _ _) (wrD_pos _ _) (wrD_zero wh) hF hX ht, ← hn]
  subst hp
  simp

theorem final_call {w w10 : World} {g C l0 l9 n4 : Nat} {ps wh fr ex tl L3 : List Int} (neg f x u : Bool) (es : Int) (hp : ps.length = l0) (ht : Ends tl) (hL : L3 = ps ++ SG neg ++ wrD true wh ++ FR f fr)
    (hn : (L3 ++ EX x u es ex).length = n4) (hO : Own w g C (n4 + l9) (L3 ++ EX x u es ex ++ tl) w10) (hm : n4 + l9 ≤ 1048592) :
    Calls Trym.prog 22 #[.slice (some ⟨g, 0, none⟩) (n4 + l9) C, .int .i64 l0] w10 fun e w' => e = .returned (.tuple #[.bool true, .int .i64 n4]) ∧ Below w10.heap.size w10 w' := by
  have hl := hO.len
  have hle : l0 ≤ (L3 ++ EX x u es ex ++ tl).length := by rw [hL]; simp; omega
  have hz := ZZNumber_any w10 C l0 (some ⟨g, 0, none⟩) (L3 ++ EX x u es ex ++ tl) hO.data (by omega) hle
  have hr : numF (L3 ++ EX x u es ex ++ tl) l0 = (true, n4) := by
    subst hL
    exact plain_reads neg f x u es hp ht hn
  rw [hl, hr] at hz
  exact hz

theorem ES_neg {es : Int} (h : es < 0) : ES es = [45] := by simp [ES, h]
theorem ES_pos {es : Int} (h : ¬ es < 0) (h2 : 0 < es) : ES es = [43] := by rw [ES, if_neg h, if_pos h2]
theorem ES_zero {es : Int} (h : ¬ es < 0) (h2 : ¬ 0 < es) : ES es = [] := by rw [ES, if_neg h, if_neg h2]
theorem ex_sign {w0 w : World} {g C n : Nat} {L ex : List Int} {u : Bool} {es c s : Int} (hs : ES es = [s]) (hc : c = if u then 69 else 101) (h : Own w0 g C n (L ++ [c] ++ [s] ++ wrD false ex) w) : Own w0 g C n (L ++ EX true u es ex) w := by
  have e : L ++ EX true u es ex = L ++ [c] ++ [s] ++ wrD false ex := by simp [EX, hs, hc]
  rw [e]; exact h
theorem ex_bare {w0 w : World} {g C n : Nat} {L ex : List Int} {u : Bool} {es c : Int} (hs : ES es = []) (hc : c = if u then 69 else 101) (h : Own w0 g C n (L ++ [c] ++ wrD false ex) w) : Own w0 g C n (L ++ EX true u es ex) w := by
  have e : L ++ EX true u es ex = L ++ [c] ++ wrD false ex := by simp [EX, hs, hc]
  rw [e]; exact h
theorem ends_nil : Ends [] := ⟨by decide, by decide, by decide⟩
theorem ends_of {tl : List Int} {z : Int} (hz : z = tl.getD 0 0) (h1 : dg z = false) (h2 : (z == 46) = false) (h3 : (z == 101) = false) (h4 : (z == 69) = false) : Ends tl := by
  have e : tl.headD 0 = z := by rw [hz]; cases tl <;> rfl
  exact ⟨by rw [e]; exact h1, by rw [e]; exact h2, by rw [e]; simp [isE, h3, h4]⟩

set_option maxRecDepth 100000 in
set_option maxHeartbeats 1000000 in
theorem reads_walk (a0 a2 a4 a8 a9 : Option Addr) (l0 c0 l2 c2 l4 c4 l8 c8 l9 c9 : Nat) (neg hf hx hu : Bool) (es : Int) (ps wh fr ex tl : List Int) (w : World) (h : l0 + l2 + l4 + l8 + l9 ≤ 1048576)
    (S0 : Hid (Src0 w a0 l0 c0 ps)) (S2 : Hid (Src0 w a2 l2 c2 wh)) (S4 : Hid (Src0 w a4 l4 c4 fr)) (S8 : Hid (Src0 w a8 l8 c8 ex)) (S9 : Hid (Src0 w a9 l9 c9 tl))
    (R2 : Hid (∀ k, 0 ≤ wh.getD k 0 ∧ wh.getD k 0 ≤ 255)) (R4 : Hid (∀ k, 0 ≤ fr.getD k 0 ∧ fr.getD k 0 ≤ 255)) (R8 : Hid (∀ k, 0 ≤ ex.getD k 0 ∧ ex.getD k 0 ≤ 255)) :
    Calls Trym.prog 9 #[.slice a0 l0 c0, .bool neg, .slice a2 l2 c2, .bool hf, .slice a4 l4 c4, .bool hx, .bool hu, .int .i8 es, .slice a8 l8 c8, .slice a9 l9 c9] w fun e w' => e = .returned (.bool true) ∧ Below w.heap.size w w' := by
  have d0 : decide ((1048576 : Int) < (l0 : Int)) = false := by simp; omega
  have d2 : decide ((1048576 : Int) < (l2 : Int)) = false := by simp; omega
  have d4 : decide ((1048576 : Int) < (l4 : Int)) = false := by simp; omega
  have d8 : decide ((1048576 : Int) < (l8 : Int)) = false := by simp; omega
  have d9 : decide ((1048576 : Int) < (l9 : Int)) = false := by simp; omega
  go_enter Trym.func9, Trym.ntmps9
  go_upto_if 79 with (go_at_call 25; refine (zz25_yes _ _ _ _ _ _ _ _ _ _ _ _ _ _ _ _ _ _ _ _ _ h).mono ?_; rintro e w' ⟨rfl, rfl⟩)
  go_cut [] (fun wc => Ends tl ∧ w = wc)
  case first =>
    by_cases h9 : 0 < l9
    · obtain ⟨b, off, rfl, hb, hc⟩ := S9.out.at h9
      have hcell := hc 0 h9
      clear hc
      rw [Nat.add_zero] at hcell
      have h9' : (0 : Int) < (l9 : Int) := by omega
      obtain ⟨z, hz⟩ : ∃ z, z = tl.getD 0 0 := ⟨_, rfl⟩
      rw [← hz] at hcell
      have HZ := hide hz
      clear hz
      by_cases hl : 48 ≤ z
      · by_cases hu' : z ≤ 57
        · go_wp2
          go_ret
          exact ⟨rfl, Below.refl _ _⟩
        · have hu2 : decide (z ≤ 57) = false := by simpa using hu'
          have HDG := hide (show dg z = false by simp [dg]; omega)
          have h46 : (z == 46) = false := by simp; omega
          clear hu'
          cases h101 : (z == 101)
          · cases h69 : (z == 69)
            · have HE := hide (ends_of HZ.out HDG.out h46 h101 h69)
              go_wp2
              go_meet
              case rel => exact ⟨HE.out, rfl⟩
            · go_wp2
              go_ret
              exact ⟨rfl, Below.refl _ _⟩
          · go_wp2
            go_ret
            exact ⟨rfl, Below.refl _ _⟩
      · have hl2 : decide (48 ≤ z) = false := by simpa using hl
        have HDG := hide (show dg z = false by simp [dg]; omega)
        have h101 : (z == 101) = false := by simp; omega
        have h69 : (z == 69) = false := by simp; omega
        clear hl
        cases h46 : (z == 46)
        · have HE := hide (ends_of HZ.out HDG.out h46 h101 h69)
          go_wp2
          go_meet
          case rel => exact ⟨HE.out, rfl⟩
        · go_wp2
          go_ret
          exact ⟨rfl, Below.refl _ _⟩
    · obtain rfl : l9 = 0 := by omega
      have HE := hide (show Ends tl by
        have := S9.out.len
        rw [List.eq_nil_of_length_eq_zero this]; exact ends_nil)
      go_wp2
      go_meet
      case rel => exact ⟨HE.out, rfl⟩
  case rest =>
    obtain ⟨ht, rfl⟩ := hcut
    have HT := hide ht
    clear ht
    obtain ⟨C, hC1, hC2⟩ : ∃ C : Nat, C ≤ l0 + l2 + l4 + l8 + l9 + 8 ∧ l0 + l2 + l4 + l8 + l9 + 8 ≤ C := ⟨_, Nat.le_refl _, Nat.le_refl _⟩
    go_upto_if 122 with (first | (at_make; refine wpList_room rfl (.const (.int .i64 0)) (.tmp 115) rfl _ C rfl rfl (by omega) (by omega) ?_; intro w1 H1) | (at_builtin; refine wpList_add rfl (.tmp 117) (.tmp 118) rfl w w.heap.size C 0 [] a0 l0 c0 ps rfl rfl H1 S0 (by omega) ?_; rw [Nat.zero_add, List.nil_append]; intro w2 H2))
    go_cut [22] (fun d wc => ∃ n : Nat, d = .slice (some ⟨w.heap.size, 0, none⟩) n C ∧ n ≤ l0 + 1 ∧ Own w w.heap.size C n (ps ++ SG neg) wc)
    case first =>
      cases neg
      · go_wp2
        go_meet
        case rel => exact ⟨l0, rfl, by omega, by simpa [SG] using H2.out⟩
      · go_wp2_with (at_builtin; refine wpList_add1 rfl (.tmp 123) (.tmp 124) rfl w w.heap.size C l0 ps 45 rfl rfl H2 (by omega) ?_; intro w3 H3)
        go_meet
        case rel => exact ⟨l0 + 1, rfl, by omega, H3.out⟩
    case rest =>
      obtain ⟨n1, rfl, hn1, hO1⟩ := hcut
      have H3 := hide hO1
      clear hO1 H1 H2
      go_upto_if 129 with (go_at_call 26; refine (appendDigits_any w _ w.heap.size C n1 (ps ++ SG neg) a2 l2 c2 wh true H3 S2 R2 (by omega) (by omega)).mono ?_; rintro e w4 ⟨n2, rfl, hn2, _, hO4⟩; have H4 := hide hO4; clear hO4)
      go_cut [22] (fun d wc => ∃ n : Nat, d = .slice (some ⟨w.heap.size, 0, none⟩) n C ∧ n ≤ l0 + l2 + l4 + 4 ∧ Own w w.heap.size C n (ps ++ SG neg ++ wrD true wh ++ FR hf fr) wc)
      case first =>
        cases hf
        · go_wp2
          go_meet
          case rel => exact ⟨n2, rfl, by omega, by simpa [FR] using H4.out⟩
        · go_wp2_with (first | (at_builtin; refine wpList_add1 rfl (.tmp 130) (.tmp 131) rfl w w.heap.size C n2 (ps ++ SG neg ++ wrD true wh) 46 rfl rfl H4 (by omega) ?_; intro w5 H5) | (go_at_call 26; refine (appendDigits_any w _ w.heap.size C (n2 + 1) _ a4 l4 c4 fr false H5 S4 R4 (by omega) (by omega)).mono ?_; rintro e w6 ⟨n3, rfl, hn3, _, hO6⟩; have H6 := hide hO6; clear hO6))
          go_meet
          case rel => exact ⟨n3, rfl, by omega, by simpa [FR] using H6.out⟩
      case rest =>
        obtain ⟨n3, rfl, hn3, hO5⟩ := hcut
        have H5 := hide hO5
        clear hO5 H3 H4
        go_upto_if 136 with fail
        obtain ⟨L3, hL3⟩ : ∃ L3, L3 = ps ++ SG neg ++ wrD true wh ++ FR hf fr := ⟨_, rfl⟩
        rw [← hL3] at H5
        have HL3 := hide hL3
        clear hL3
        go_cut [22] (fun d wc => ∃ n : Nat, d = .slice (some ⟨w.heap.size, 0, none⟩) n C ∧ n ≤ l0 + l2 + l4 + l8 + 7 ∧ Own w w.heap.size C n (L3 ++ EX hx hu es ex) wc)
        case first =>
          cases hx
          · go_wp2
            go_meet
            case rel => exact ⟨n3, rfl, by omega, by simpa [EX] using H5.out⟩
          · have hes : (es < 0) ∨ (¬ es < 0 ∧ 0 < es) ∨ (¬ es < 0 ∧ ¬ 0 < es) := by omega
            cases hu
            · rcases hes with e1 | ⟨e1, e2⟩ | ⟨e1, e2⟩
              · have HSG := hide (ES_neg e1)
                go_wp2_with (first | (at_builtin; refine wpList_add1 rfl (.tmp 141) (.tmp 142) rfl w w.heap.size C n3 L3 101 rfl rfl H5 (by omega) ?_; intro w7 H7) | (at_builtin; refine wpList_add1 rfl (.tmp 146) (.tmp 147) rfl w w.heap.size C (n3 + 1) _ 45 rfl rfl H7 (by omega) ?_; intro w9 H9) | (go_at_call 26; refine (appendDigits_any w _ w.heap.size C (n3 + 1 + 1) _ a8 l8 c8 ex false H9 S8 R8 (by omega) (by omega)).mono ?_; rintro e w8 ⟨n4, rfl, hn4, _, hO8⟩; have H8 := hide hO8; clear hO8))
                go_meet
                case rel => exact ⟨n4, rfl, by omega, (by first | exact ex_sign HSG.out rfl H8.out | exact ex_bare HSG.out rfl H8.out)⟩
              · have HSG := hide (ES_pos e1 e2)
                go_wp2_with (first | (at_builtin; refine wpList_add1 rfl (.tmp 141) (.tmp 142) rfl w w.heap.size C n3 L3 101 rfl rfl H5 (by omega) ?_; intro w7 H7) | (at_builtin; refine wpList_add1 rfl (.tmp 151) (.tmp 152) rfl w w.heap.size C (n3 + 1) _ 43 rfl rfl H7 (by omega) ?_; intro w9 H9) | (go_at_call 26; refine (appendDigits_any w _ w.heap.size C (n3 + 1 + 1) _ a8 l8 c8 ex false H9 S8 R8 (by omega) (by omega)).mono ?_; rintro e w8 ⟨n4, rfl, hn4, _, hO8⟩; have H8 := hide hO8; clear hO8))
                go_meet
                case rel => exact ⟨n4, rfl, by omega, (by first | exact ex_sign HSG.out rfl H8.out | exact ex_bare HSG.out rfl H8.out)⟩
              · have HSG := hide (ES_zero e1 e2)
                go_wp2_with (first | (at_builtin; refine wpList_add1 rfl (.tmp 141) (.tmp 142) rfl w w.heap.size C n3 L3 101 rfl rfl H5 (by omega) ?_; intro w7 H7) | (go_at_call 26; refine (appendDigits_any w _ w.heap.size C (n3 + 1) _ a8 l8 c8 ex false H7 S8 R8 (by omega) (by omega)).mono ?_; rintro e w8 ⟨n4, rfl, hn4, _, hO8⟩; have H8 := hide hO8; clear hO8))
                go_meet
                case rel => exact ⟨n4, rfl, by omega, (by first | exact ex_sign HSG.out rfl H8.out | exact ex_bare HSG.out rfl H8.out)⟩
            · rcases hes with e1 | ⟨e1, e2⟩ | ⟨e1, e2⟩
              · have HSG := hide (ES_neg e1)
                go_wp2_with (first | (at_builtin; refine wpList_add1 rfl (.tmp 138) (.tmp 139) rfl w w.heap.size C n3 L3 69 rfl rfl H5 (by omega) ?_; intro w7 H7) | (at_builtin; refine wpList_add1 rfl (.tmp 146) (.tmp 147) rfl w w.heap.size C (n3 + 1) _ 45 rfl rfl H7 (by omega) ?_; intro w9 H9) | (go_at_call 26; refine (appendDigits_any w _ w.heap.size C (n3 + 1 + 1) _ a8 l8 c8 ex false H9 S8 R8 (by omega) (by omega)).mono ?_; rintro e w8 ⟨n4, rfl, hn4, _, hO8⟩; have H8 := hide hO8; clear hO8))
                go_meet
                case rel => exact ⟨n4, rfl, by omega, (by first | exact ex_sign HSG.out rfl H8.out | exact ex_bare HSG.out rfl H8.out)⟩
              · have HSG := hide (ES_pos e1 e2)
                go_wp2_with (first | (at_builtin; refine wpList_add1 rfl (.tmp 138) (.tmp 139) rfl w w.heap.size C n3 L3 69 rfl rfl H5 (by omega) ?_; intro w7 H7) | (at_builtin; refine wpList_add1 rfl (.tmp 151) (.tmp 152) rfl w w.heap.size C (n3 + 1) _ 43 rfl rfl H7 (by omega) ?_; intro w9 H9) | (go_at_call 26; refine (appendDigits_any w _ w.heap.size C (n3 + 1 + 1) _ a8 l8 c8 ex false H9 S8 R8 (by omega) (by omega)).mono ?_; rintro e w8 ⟨n4, rfl, hn4, _, hO8⟩; have H8 := hide hO8; clear hO8))
                go_meet
                case rel => exact ⟨n4, rfl, by omega, (by first | exact ex_sign HSG.out rfl H8.out | exact ex_bare HSG.out rfl H8.out)⟩
              · have HSG := hide (ES_zero e1 e2)
                go_wp2_with (first | (at_builtin; refine wpList_add1 rfl (.tmp 138) (.tmp 139) rfl w w.heap.size C n3 L3 69 rfl rfl H5 (by omega) ?_; intro w7 H7) | (go_at_call 26; refine (appendDigits_any w _ w.heap.size C (n3 + 1) _ a8 l8 c8 ex false H7 S8 R8 (by omega) (by omega)).mono ?_; rintro e w8 ⟨n4, rfl, hn4, _, hO8⟩; have H8 := hide hO8; clear hO8))
                go_meet
                case rel => exact ⟨n4, rfl, by omega, (by first | exact ex_sign HSG.out rfl H8.out | exact ex_bare HSG.out rfl H8.out)⟩
        case rest =>
          obtain ⟨n4, rfl, hn4, hO9⟩ := hcut
          have H9 := hide hO9
          clear hO9 H5
          go_wp2_with (at_builtin; refine wpList_add rfl (.tmp 159) (.tmp 160) rfl w w.heap.size C n4 (L3 ++ EX hx hu es ex) a9 l9 c9 tl rfl rfl H9 S9 (by omega) ?_; intro w10 H10)
          have hz := final_call neg hf hx hu es S0.out.len HT.out HL3.out H9.out.len H10.out (by omega)
          refine hz.mono ?_
          clear hz
          rintro e w11 ⟨rfl, hb⟩
          have HB := hide (H10.out.bel.trans (hb.mono H10.out.bel.size))
          clear hb
          go_wp2
          go_ret
          exact ⟨rfl, HB.out⟩

end Go.Proofs.Qxb6000362aMods
