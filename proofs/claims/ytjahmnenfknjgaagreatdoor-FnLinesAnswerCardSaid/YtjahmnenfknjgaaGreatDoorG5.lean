/- The set's W6, W7, and all of W1 to W7, each by its contract. -/
import Derived.Test.YtjahmnenfknjgaaGreatDoorG4
import Derived.Test.YtjahmnenfknjgaaGreatDoorG1
import Derived.Test.YtjahmnenfknjgaaGreatDoorG2
set_option linter.unusedVariables false
set_option linter.unusedSimpArgs false
namespace Go.Proofs.YtjahmnenfknjgaaGreatDoor
open Go.RowKit

set_option maxHeartbeats 2000000 in
set_option maxRecDepth 100000 in
theorem others_any (g c : Nat) (l : List Cl) (st : Cl) (w : World) (hr : Row w g 3 (nums .i64 (clsI l))) (hm : l.length ≤ 2147483647) :
    Calls Tryz.prog 73 #[.slice (some ⟨g, 0, none⟩) l.length c, .int .i64 st.e1] w (Left w g (w7L (w6L l) st)) := by
  go_enter Tryz.func73, Tryz.ntmps73
  go_wp2
  go_loopg [10] (l.length + 1) (fun k i wr => ∃ (j : Nat) (m : List Cl), i = .int .i64 j ∧ j ≤ l.length ∧ InP w wr g l (w6 l) j m ∧ Hid (l.length + 1 - j ≤ k))
  case atStart => exact ⟨0, l, rfl, by omega, InP.start hr, Nat.le_refl _⟩
  case round =>
    obtain ⟨j, m, rfl, hj, hI, hk⟩ := hrel
    by_cases hlt : j < l.length
    · have hc := hI.cell j hlt
      rw [hI.rest j (Nat.le_refl _)] at hc
      have hf := hI.row.free j
      have b0 : ((cat l j).e1 == 3) = decide (cat l j = .ES) := Cl.e1_beq (cat l j) .ES
      have b1 : ((cat l j).e1 == 4) = decide (cat l j = .ET) := Cl.e1_beq (cat l j) .ET
      have b2 : ((cat l j).e1 == 6) = decide (cat l j = .CS) := Cl.e1_beq (cat l j) .CS
      by_cases hn : cat l j = .ES ∨ cat l j = .ET ∨ cat l j = .CS
      · have hI2 := hI.set hlt .ON (by unfold w6; rw [if_pos hn])
        rcases hn with h | h | h
        all_goals
          rw [h] at b0 b1 b2
          simp only [h] at hc
          clear h
          go_wp2
          go_roundg (l.length + 1 - (j + 1))
          case measure => have := hk.out; omega
          case rel => exact ⟨j + 1, _, by go_num, by omega, hI2, Nat.le_refl _⟩
      · have hI2 := hI.keep (by unfold w6; rw [if_neg hn])
        rw [decide_eq_false (fun h => hn (.inl h))] at b0
        rw [decide_eq_false (fun h => hn (.inr (.inl h)))] at b1
        rw [decide_eq_false (fun h => hn (.inr (.inr h)))] at b2
        clear hn
        go_wp2
        go_roundg (l.length + 1 - (j + 1))
        case measure => have := hk.out; omega
        case rel => exact ⟨j + 1, m, by go_num, by omega, hI2, Nat.le_refl _⟩
    · obtain rfl : j = l.length := by omega
      have hE := hI.fin
      have hrow := hI.row
      rw [hE] at hrow
      have hu := hI.up
      have hl2 := w6L_length l
      have hrow2 : Row wr g 3 (nums .i64 (clsI (w6L l))) := hrow
      clear hE hI hrow
      generalize w6L l = l2 at *
      have hll : l2.length ≤ 2147483647 := by omega
      rw [← hl2] at *
      clear hl2
      go_wp2
      go_loopg [31] (l2.length + 1) (fun k i wr2 => ∃ (j : Nat) (m : List Cl), i = .int .i64 j ∧ j ≤ l2.length ∧ InP wr wr2 g l2 (w7 l2 st) j m ∧ Hid (l2.length + 1 - j ≤ k))
      case atStart => exact ⟨0, l2, rfl, by omega, InP.start hrow2, Nat.le_refl _⟩
      case round =>
        obtain ⟨j, m, rfl, hj, hI, hk⟩ := hrel
        by_cases hlt : j < l2.length
        · have hc := hI.cell j hlt
          rw [hI.rest j (Nat.le_refl _)] at hc
          have hf := hI.row.free j
          have b0 : ((cat l2 j).e1 == 2) = decide (cat l2 j = .EN) := Cl.e1_beq (cat l2 j) .EN
          by_cases hn : cat l2 j = .EN
          · rw [decide_eq_true hn] at b0
            have hsb := sb_w7 (l := l2) (m := m) (st := st) j hI.don
            have hw : w7 l2 st j = if sb l2 st j = .L then .L else cat l2 j := by
              unfold w7
              by_cases e : sb l2 st j = .L
              · rw [if_pos ⟨hn, e⟩, if_pos e]
              · rw [if_neg (fun h => e h.2), if_neg e]
            have b1 : ((sb l2 st j).e1 == 0) = decide (sb l2 st j = .L) := Cl.e1_beq (sb l2 st j) .L
            have hlen := hI.len
            have hrd := Rd.of_row hI.row
            have hcall := fun w' (h : Rd w' (some ⟨g, 0, none⟩) (nums .i64 (clsI m))) => strongBefore_any (some ⟨g, 0, none⟩) c m j st w' h (by omega) (by omega)
            rw [hsb, hlen] at hcall
            have HCall := Lib.hid hcall
            clear hcall
            generalize sb l2 st j = p at *
            by_cases hp : p = .L
            · rw [decide_eq_true hp] at b1
              rw [if_pos hp] at hw
              have hI2 := hI.set hlt .L hw
              clear hn hp hw hsb hlen
              go_wp2_with (go_at_call 94; refine (HCall.out _ hrd).mono ?_; rintro e w' ⟨rfl, rfl⟩)
              go_roundg (l2.length + 1 - (j + 1))
              case measure => have := hk.out; omega
              case rel => exact ⟨j + 1, _, by go_num, by omega, hI2, Nat.le_refl _⟩
            · rw [decide_eq_false hp] at b1
              rw [if_neg hp] at hw
              have hI2 := hI.keep hw
              clear hn hp hw hsb hlen
              go_wp2_with (go_at_call 94; refine (HCall.out _ hrd).mono ?_; rintro e w' ⟨rfl, rfl⟩)
              go_roundg (l2.length + 1 - (j + 1))
              case measure => have := hk.out; omega
              case rel => exact ⟨j + 1, _, by go_num, by omega, hI2, Nat.le_refl _⟩
          · rw [decide_eq_false hn] at b0
            have hI2 := hI.keep (by unfold w7; rw [if_neg (fun h => hn h.1)])
            clear hn
            go_wp2
            go_roundg (l2.length + 1 - (j + 1))
            case measure => have := hk.out; omega
            case rel => exact ⟨j + 1, m, by go_num, by omega, hI2, Nat.le_refl _⟩
        · obtain rfl : j = l2.length := by omega
          have HE := Lib.hid hI.fin
          go_wp2
          go_end0
          refine ⟨rfl, ?_, hu.trans hI.up⟩
          rw [w7L, ← HE.out]
          exact hI.row

set_option maxHeartbeats 2000000 in
set_option maxRecDepth 100000 in
theorem sWeak_any (A : Option Addr) (c : Nat) (l : List Cl) (st : Cl) (w : World) (hr : Rd w A (nums .i64 (clsI l))) (h0 : 0 < l.length) (hm : l.length ≤ 2147483647) :
    Calls Tryz.prog 34 #[.slice A l.length c, .int .i64 st.e1] w (RetRow w 3 l.length (nums .i64 (clsI (weakS l st)))) := by
  obtain ⟨i0, hi', hz0, hz1, hz2⟩ := info_parts info3
  obtain ⟨ga, oa, rfl, hca⟩ := hr.some (by rw [nums_length, clsI_length]; exact h0)
  have hga : ga < w.heap.size := World.block_lt_of_cell? w _ (hca 0 _ (List.getElem?_eq_getElem (by rw [nums_length, clsI_length]; exact h0)))
  have hown := World.ownsRow_lit (base := w.heap.size) (e := 3) (size := 1) w #[] 0 (Nat.le_refl _) (by decide) rfl
  have HC1 : Hid (∀ j u, (nums .i64 (clsI l))[j]? = some u → (w.alloc (.cells #[] 3)).cell? ((⟨ga, oa, none⟩ : Addr).add j) = some u) := by
    intro j u hj
    rw [Addr.add_lit, World.cell?_alloc_past _ _ _ (by omega)]
    exact hca j u hj
  clear hca
  have l1 := marksS_length l st
  have l2 := w3L_length (w2L (marksS l st) st)
  have l2' := w2L_length (marksS l st) st
  have l3 := w4L_length (w3L (w2L (marksS l st) st))
  have l4 := w5L_length (w4L (w3L (w2L (marksS l st) st)))
  have l5 := w6L_length (w5L (w4L (w3L (w2L (marksS l st) st))))
  have HF : Hid (w7L (w6L (w5L (w4L (w3L (w2L (marksS l st) st))))) st = weakS l st) := rfl
  have c1 := fun g c w h => marks_any g c l st w h hm
  have c2 := fun g c w h => arabic_any g c (marksS l st) st w h (by omega)
  have c3 := fun g c w h => separators_any g c (w3L (w2L (marksS l st) st)) w h (by omega) (by omega)
  have c4 := fun g c w h => terminators_any g c (w4L (w3L (w2L (marksS l st) st))) w h (by omega)
  have c5 := fun g c w h => others_any g c (w5L (w4L (w3L (w2L (marksS l st) st)))) st w h (by omega)
  rw [l1] at c2 l2'
  rw [l2, l2'] at c3 l3
  rw [l3] at c4 l4
  rw [l4] at c5 l5
  have C1 := Lib.hid c1
  have C2 := Lib.hid c2
  have C3 := Lib.hid c3
  have C4 := Lib.hid c4
  have C5 := Lib.hid c5
  clear c1 c2 c3 c4 c5 l1 l2 l2' l3 l4 l5
  go_enter Tryz.func34, Tryz.ntmps34
  go_wp2_with (at_builtin; go_must (refine wpList_append_own _ rfl (.tmp 6) (.tmp 7) 22 rfl w.heap.size 3 i0 (.int .i64 0) 1 8 Tryz.underlying22 hi' hz0 hz1 hz2 rfl (by decide) _ 0 [] rfl hown ⟨ga, oa, none⟩ l.length c (nums .i64 (clsI l)) rfl (by rw [nums_length, clsI_length]; omega) HC1.out (nums_one _ _) (by unfold maxLen; omega) (by omega) (by simp) ?_); intro v2 w2 hown2 hgrow2 _)
  rw [Nat.zero_add, List.nil_append] at hown2
  obtain ⟨g, ct, rfl, hg⟩ := owns_slice hown2 h0
  have hR := Row.of_owns hown2
  have hu : Upd [] w w2 := ((Upd.refl _ _).alloc _).grown hgrow2 (fun k e => by cases e; exact .inr (by show _ ≤ w.heap.size; omega))
  clear hgrow2 hown2 hown HC1
  go_wp2_with (first
    | (go_at_call 69; refine (C1.out _ _ _ hR).mono ?_; rintro e w3 ⟨rfl, hR1, hu1⟩)
    | (go_at_call 70; refine (C2.out _ _ _ hR1).mono ?_; rintro e w4 ⟨rfl, hR2, hu2⟩)
    | (go_at_call 71; refine (C3.out _ _ _ hR2).mono ?_; rintro e w5 ⟨rfl, hR3, hu3⟩)
    | (go_at_call 72; refine (C4.out _ _ _ hR3).mono ?_; rintro e w6 ⟨rfl, hR4, hu4⟩)
    | (go_at_call 73; refine (C5.out _ _ _ hR4).mono ?_; rintro e w7 ⟨rfl, hR5, hu5⟩))
  go_ret
  have hT : ∀ t, t ∈ [g] → t ∈ ([] : List Nat) ∨ w.heap.size ≤ t := fun t ht => by simp at ht; exact .inr (by omega)
  exact ⟨g, ct, rfl, hg, by rw [← HF.out]; exact hR5, ((((hu.step hu1 hT).step hu2 hT).step hu3 hT).step hu4 hT).step hu5 hT⟩
end Go.Proofs.YtjahmnenfknjgaaGreatDoor
namespace Go.Proofs.YtjahmnenfknjgaaGreatDoor
open Go.RowKit

theorem strong_any (c : Cl) (w : World) : Calls Tryz.prog 78 #[.int .i64 c.e1] w fun e w' => e = .returned (.int .i64 (ov1 (stg c))) ∧ w = w' := by
  cases c <;> (simp only [Cl.e1, stg, ov1]; go_enter Tryz.func78, Tryz.ntmps78; go_wp2; go_ret; exact ⟨rfl, rfl⟩)

set_option maxHeartbeats 1000000 in
theorem isNeutral_any (c : Cl) (w : World) : Calls Tryz.prog 77 #[.int .i64 c.e1] w fun e w' => e = .returned (.bool c.isNI) ∧ w = w' := by
  have HI : Hid (∀ w, Calls Tryz.prog 59 #[.int .i64 c.e1] w fun e w' => e = .returned (.bool c.isInit) ∧ w = w') := fun w => isInit_any c w
  cases c <;> (simp only [Cl.e1, Cl.isNI, Cl.isInit] at HI ⊢; go_enter Tryz.func77, Tryz.ntmps77; go_wp2_with (go_at_call 59; refine (HI.out _).mono ?_; rintro e w' ⟨rfl, rfl⟩); go_ret; exact ⟨rfl, rfl⟩)

theorem ov1_beq (x : Option Cl) (y : Cl) : (ov1 x == y.e1) = decide (x = some y) := by
  cases x with
  | none => have := y.e1_range; simp [ov1]; omega
  | some c => simp only [ov1, Cl.e1_beq, Option.some.injEq]
theorem ov1_none (x : Option Cl) : (0 ≤ ov1 x) ↔ x ≠ none := by
  cases x with
  | none => simp [ov1]
  | some c => simp [ov1, c.e1_range.1]

/-- A bool that says P. -/
def IsSo (b : Bool) (P : Prop) : Prop := b = true ↔ P
/-- Two bools that say p and q. -/
def SaysTwo (p q : Prop) (e : Ending) : Prop := ∃ b d : Bool, e = .returned (.tuple #[.bool b, .bool d]) ∧ (b = true ↔ p) ∧ (d = true ↔ q)

set_option maxHeartbeats 2000000 in
set_option maxRecDepth 100000 in
theorem inside_any (A : Option Addr) (c : Nat) (l : List Cl) (a b : Nat) (way : Cl) (w : World) (hr : Rd w A (nums .i64 (clsI l))) (hb : b ≤ l.length) (ha : a ≤ l.length) (hm : l.length ≤ 2147483647) :
    Calls Tryz.prog 75 #[.slice A l.length c, .int .i64 a, .int .i64 b, .int .i64 way.e1] w fun e w' => SaysTwo (InsSame l a b way) (InsOther l a b way) e ∧ w = w' := by
  go_enter Tryz.func75, Tryz.ntmps75
  go_wp2
  go_loopg [10, 11, 12] (b + 1) (fun k x y i wr => ∃ (j : Nat) (p q : Bool), i = .int .i64 j ∧ j ≤ l.length + 1 ∧ a < j ∧ x = .bool p ∧ y = .bool q ∧ IsSo p (InsSame l a j way) ∧ IsSo q (InsOther l a j way) ∧ Hid (j ≤ b ∨ j = a + 1) ∧ w = wr ∧ Hid (b + 1 - j ≤ k))
  case atStart => exact ⟨a + 1, false, false, by go_num, by omega, by omega, rfl, rfl, ⟨(fun h => by cases h), (fun ⟨i, h1, h2, _⟩ => by omega)⟩, ⟨(fun h => by cases h), (fun ⟨i, h1, h2, _⟩ => by omega)⟩, .inr rfl, rfl, by show _ ≤ _; omega⟩
  case round =>
    obtain ⟨j, p, q, rfl, hj, haj, rfl, rfl, HP, HQ, HJ, rfl, hk⟩ := hrel
    by_cases hlt : j < b
    · obtain ⟨g, o, rfl, hc⟩ := hr.num j (by rw [clsI_length]; omega)
      rw [nth_clsI (by omega)] at hc
      have hsame : InsSame l a (j + 1) way ↔ InsSame l a j way ∨ stg (cat l j) = some way := by
        constructor
        · rintro ⟨i, h1, h2, h3⟩
          by_cases e : i = j
          · subst e; exact .inr h3
          · exact .inl ⟨i, h1, by omega, h3⟩
        · rintro (⟨i, h1, h2, h3⟩ | h3)
          · exact ⟨i, h1, by omega, h3⟩
          · exact ⟨j, haj, by omega, h3⟩
      have hother : InsOther l a (j + 1) way ↔ InsOther l a j way ∨ ∃ x, stg (cat l j) = some x ∧ x ≠ way := by
        constructor
        · rintro ⟨i, h1, h2, h3⟩
          by_cases e : i = j
          · subst e; exact .inr h3
          · exact .inl ⟨i, h1, by omega, h3⟩
        · rintro (⟨i, h1, h2, h3⟩ | h3)
          · exact ⟨i, h1, by omega, h3⟩
          · exact ⟨j, haj, by omega, h3⟩
      have hb1 := ov1_beq (stg (cat l j)) way
      have hst := Lib.hid (fun w => strong_any (cat l j) w)
      generalize stg (cat l j) = s at *
      have fin : ∀ p' q' : Bool, (p' = true ↔ (InsSame l a j way ∨ s = some way)) → (q' = true ↔ (InsOther l a j way ∨ ∃ x, s = some x ∧ x ≠ way)) → IsSo p' (InsSame l a (j + 1) way) ∧ IsSo q' (InsOther l a (j + 1) way) := fun p' q' h1 h2 => ⟨h1.trans hsame.symm, h2.trans hother.symm⟩
      have FIN := Lib.hid fin
      clear fin hsame hother
      have hp : p = true ↔ InsSame l a j way := HP
      have hq : q = true ↔ InsOther l a j way := HQ
      cases s with
      | none =>
        have h0 : ¬ 0 ≤ ov1 none := by simp [ov1]
        have hd : decide (0 ≤ ov1 none) = false := by simp [ov1]
        rw [decide_eq_false (by simp)] at hb1
        have R := Lib.hid (FIN.out p q (by rw [hp]; simp) (by rw [hq]; simp))
        clear hp hq FIN
        cases p <;> cases q
        all_goals
          go_wp2_with (go_at_call 78; refine (hst.out _).mono ?_; rintro e w' ⟨rfl, rfl⟩)
          go_roundg (b + 1 - (j + 1))
          case measure => have := hk.out; omega
          case rel => exact ⟨j + 1, _, _, by go_num, by omega, by omega, rfl, rfl, R.out.1, R.out.2, .inl (by omega), rfl, Nat.le_refl _⟩
      | some x =>
        have h0 : 0 ≤ ov1 (some x) := x.e1_range.1
        by_cases hx : x = way
        · rw [decide_eq_true (by rw [hx])] at hb1
          have hb2 := bne_of hb1
          simp only [Bool.not_true] at hb2
          have R := Lib.hid (FIN.out true q (by simp [hx]) (by rw [hq]; simp [hx]))
          clear hp hq FIN hx
          cases p <;> cases q
          all_goals
            go_wp2_with (go_at_call 78; refine (hst.out _).mono ?_; rintro e w' ⟨rfl, rfl⟩)
            go_roundg (b + 1 - (j + 1))
            case measure => have := hk.out; omega
            case rel => exact ⟨j + 1, _, _, by go_num, by omega, by omega, rfl, rfl, R.out.1, R.out.2, .inl (by omega), rfl, Nat.le_refl _⟩
        · rw [decide_eq_false (by simpa using hx)] at hb1
          have hb2 := bne_of hb1
          simp only [Bool.not_false] at hb2
          have R := Lib.hid (FIN.out p true (by rw [hp]; simp [hx]) (by simp [hx]))
          clear hp hq FIN hx
          cases p <;> cases q
          all_goals
            go_wp2_with (go_at_call 78; refine (hst.out _).mono ?_; rintro e w' ⟨rfl, rfl⟩)
            go_roundg (b + 1 - (j + 1))
            case measure => have := hk.out; omega
            case rel => exact ⟨j + 1, _, _, by go_num, by omega, by omega, rfl, rfl, R.out.1, R.out.2, .inl (by omega), rfl, Nat.le_refl _⟩
    · have hs : InsSame l a j way ↔ InsSame l a b way := by
        constructor
        · rintro ⟨i, h1, h2, h3⟩; exact ⟨i, h1, by have := HJ.out; omega, h3⟩
        · rintro ⟨i, h1, h2, h3⟩; exact ⟨i, h1, by omega, h3⟩
      have ho : InsOther l a j way ↔ InsOther l a b way := by
        constructor
        · rintro ⟨i, h1, h2, h3⟩; exact ⟨i, h1, by have := HJ.out; omega, h3⟩
        · rintro ⟨i, h1, h2, h3⟩; exact ⟨i, h1, by omega, h3⟩
      have R : Hid (SaysTwo (InsSame l a b way) (InsOther l a b way) (.returned (.tuple #[.bool p, .bool q]))) := ⟨p, q, rfl, Iff.trans HP hs, Iff.trans HQ ho⟩
      clear hs ho
      go_wp2
      go_ret2
      exact ⟨R.out, rfl⟩
end Go.Proofs.YtjahmnenfknjgaaGreatDoor
namespace Go.Proofs.YtjahmnenfknjgaaGreatDoor
open Go.RowKit

set_option maxHeartbeats 1000000 in
theorem context_any (A : Option Addr) (c : Nat) (l : List Cl) (p : Nat) (st : Cl) (w : World) (hr : Rd w A (nums .i64 (clsI l))) (hp : p ≤ l.length) (hm : l.length ≤ 2147483647) :
    Calls Tryz.prog 76 #[.slice A l.length c, .int .i64 p, .int .i64 st.e1] w fun e w' => e = .returned (.int .i64 (ctx l st p).e1) ∧ w = w' := by
  obtain ⟨r, hr'⟩ : ∃ r, r = ctx l st p := ⟨_, rfl⟩
  rw [← hr']
  have HR := Lib.hid hr'
  clear hr'
  go_enter Tryz.func76, Tryz.ntmps76
  go_wp2
  go_loopg [7] (p + 1) (fun k i wr => ∃ j : Nat, i = .int .i64 ((j : Int) - 1) ∧ j ≤ p ∧ Hid (r = ctx l st j) ∧ w = wr ∧ Hid (j + 1 ≤ k))
  case atStart => exact ⟨p, by go_num, Nat.le_refl _, HR, rfl, Nat.le_refl _⟩
  case round =>
    obtain ⟨j, rfl, hj, HJ, rfl, hk⟩ := hrel
    match j, hj, HJ, hk with
    | 0, hj, HJ, hk =>
      go_wp2
      go_ret
      exact ⟨ret_int (by rw [HJ.out]; rfl), rfl⟩
    | j + 1, hj, HJ, hk =>
      obtain ⟨g, o, rfl, hc⟩ := hr.num j (by rw [clsI_length]; omega)
      rw [nth_clsI (by omega)] at hc
      rw [show ((j + 1 : Nat) : Int) - 1 = j by omega]
      have hjl : j < l.length := by omega
      have hst := Lib.hid (fun w => strong_any (cat l j) w)
      have hcx : r = (stg (cat l j)).getD (ctx l st j) := HJ.out
      generalize stg (cat l j) = s at *
      cases s with
      | none =>
        have h0 : ¬ 0 ≤ ov1 none := by simp [ov1]
        have HJ2 : Hid (r = ctx l st j) := hcx
        clear hcx
        go_wp2_with (go_at_call 78; refine (hst.out _).mono ?_; rintro e w' ⟨rfl, rfl⟩)
        go_roundg (j + 1)
        case measure => have := hk.out; omega
        case rel => exact ⟨j, by go_num, by omega, HJ2, rfl, Nat.le_refl _⟩
      | some x =>
        have h0 : 0 ≤ ov1 (some x) := x.e1_range.1
        have HJ2 : Hid (r = x) := hcx
        clear hcx
        go_wp2_with (go_at_call 78; refine (hst.out _).mono ?_; rintro e w' ⟨rfl, rfl⟩)
        go_ret
        exact ⟨ret_int (by rw [HJ2.out]; rfl), rfl⟩

theorem impS_take_succ {l : List Cl} {lv : Int} {j : Nat} (h : j < l.length) : nums .i64 (impS (l.take j) lv) ++ [.int .i64 (ilv lv (cat l j))] = nums .i64 (impS (l.take (j + 1)) lv) := by
  unfold impS
  rw [take_snoc_map _ _ _ h, nums_append, cat_eq]; rfl

set_option maxHeartbeats 4000000 in
set_option maxRecDepth 100000 in
theorem sImplicit_any (A : Option Addr) (c : Nat) (l : List Cl) (lv : Int) (w : World) (hr : Rd w A (nums .i64 (clsI l))) (hi : ∀ j, j < l.length → cat l j = .L ∨ cat l j = .R ∨ cat l j = .EN ∨ cat l j = .AN) (h0 : 0 < l.length) (hl0 : 0 ≤ lv) (hl1 : lv ≤ 125) (hm : l.length ≤ 2147483647) :
    Calls Tryz.prog 37 #[.slice A l.length c, .int .i64 lv] w (RetRow w 3 l.length (nums .i64 (impS l lv))) := by
  obtain ⟨i0, hi', hz0, hz1, hz2⟩ := info_parts info3
  have HI := Lib.hid hi
  clear hi
  have hown := World.ownsRow_lit (base := w.heap.size) (e := 3) (size := 1) w #[] 0 (Nat.le_refl _) (by decide) rfl
  have hb0 : (lv % 2 == 0) = decide (lv % 2 = 0) := rfl
  have hb1 : (lv % 2 == 1) = decide (lv % 2 = 1) := rfl
  by_cases hpar : lv % 2 = 0
  all_goals
    have hp1 : (lv % 2 = 1) = ¬ (lv % 2 = 0) := by simp; omega
    simp only [hp1, hpar, decide_true, decide_false, not_true_eq_false, not_false_eq_true] at hb0 hb1
    clear hp1
    have HPAR := Lib.hid hpar
    clear hpar
    go_enter Tryz.func37, Tryz.ntmps37
    go_wp2
    go_loopg [5, 11] (l.length + 1) (fun k s i wr => ∃ j g cap : Nat, i = .int .i64 j ∧ j ≤ l.length ∧ s = .slice (some ⟨g, 0, none⟩) j cap ∧ wr.ownsRow w.heap.size 3 1 (.slice (some ⟨g, 0, none⟩) j cap) j (nums .i64 (impS (l.take j) lv)) ∧ Upd [] w wr ∧ Hid (l.length + 1 - j ≤ k))
    case atStart => exact ⟨0, w.heap.size, 0, rfl, by omega, rfl, hown, (Upd.refl _ _).alloc _, Nat.le_refl _⟩
    case round =>
      obtain ⟨j, g, cap, rfl, hj, rfl, hown, hu, hk⟩ := hrel
      by_cases hlt : j < l.length
      · obtain ⟨g1, o1, rfl, hc1⟩ := (hr.keep hu).num j (by rw [clsI_length]; exact hlt)
        rw [nth_clsI hlt] at hc1
        have hsz := hu.size
        have hT := impS_take_succ (lv := lv) hlt
        have hcl := HI.out j hlt
        have close : ∀ (x : Int) v' w2, ilv lv (cat l j) = x → w2.ownsRow w.heap.size 3 1 v' (j + 1) (nums .i64 (impS (l.take j) lv) ++ [.int .i64 x]) → (wr.alloc (.cells #[.int .i64 x] 3)).grownBy w2 (Value.ownBlock (.slice (some ⟨g, 0, none⟩) j cap)) → ∃ g' c', v' = .slice (some ⟨g', 0, none⟩) (j + 1) c' ∧ w2.ownsRow w.heap.size 3 1 (.slice (some ⟨g', 0, none⟩) (j + 1) c') (j + 1) (nums .i64 (impS (l.take (j + 1)) lv)) ∧ Upd [] w w2 := by
          intro x v' w2 hx h1 h2
          rw [← hx, hT] at h1
          obtain ⟨g', c', rfl, hg'⟩ := owns_slice h1 (by omega)
          exact ⟨g', c', rfl, h1, (hu.alloc _).grown h2 (fun k e => by have := hown.lt k (by cases e; rfl); exact .inr this.1)⟩
        have HCL := Lib.hid close
        clear close hT
        rcases hcl with h | h | h | h
        all_goals
          rw [h] at hc1
          have hv : ilv lv (cat l j) = ilv lv (cat l j) := rfl
          simp only [h, ilv, HPAR.out] at hv
          have HH := Lib.hid h
          clear h
          go_wp2_with (first
            | (at_builtin; refine wpList_append_own _ rfl (.tmp 34) (.tmp 37) 22 rfl w.heap.size 3 i0 (.int .i64 0) 1 8 Tryz.underlying22 hi' hz0 hz1 hz2 rfl (by decide) _ j _ rfl (hown.alloc _) ⟨wr.heap.size, 0, none⟩ 1 1 [.int .i64 (lv + 1)] rfl rfl (one_at _ _ rfl _ _) (one_int _ _) (by unfold maxLen; omega) (by omega) (by simp; omega) ?_; intro v' w2 hown2 hgrow2 _)
            | (at_builtin; refine wpList_append_own _ rfl (.tmp 51) (.tmp 54) 22 rfl w.heap.size 3 i0 (.int .i64 0) 1 8 Tryz.underlying22 hi' hz0 hz1 hz2 rfl (by decide) _ j _ rfl (hown.alloc _) ⟨wr.heap.size, 0, none⟩ 1 1 [.int .i64 (lv + 2)] rfl rfl (one_at _ _ rfl _ _) (one_int _ _) (by unfold maxLen; omega) (by omega) (by simp; omega) ?_; intro v' w2 hown2 hgrow2 _)
            | (at_builtin; refine wpList_append_own _ rfl (.tmp 15) (.tmp 17) 22 rfl w.heap.size 3 i0 (.int .i64 0) 1 8 Tryz.underlying22 hi' hz0 hz1 hz2 rfl (by decide) _ j _ rfl (hown.alloc _) ⟨wr.heap.size, 0, none⟩ 1 1 [.int .i64 lv] rfl rfl (one_at _ _ rfl _ _) (one_int _ _) (by unfold maxLen; omega) (by omega) (by simp; omega) ?_; intro v' w2 hown2 hgrow2 _))
          obtain ⟨g', c', rfl, hown3, hu3⟩ := HCL.out _ _ _ (by rw [HH.out]; simp [ilv, HPAR.out]) hown2 hgrow2
          clear hgrow2 hown2
          go_roundg (l.length + 1 - (j + 1))
          case measure => have := hk.out; omega
          case rel => exact ⟨j + 1, g', c', by go_num, by omega, rfl, hown3, hu3, Nat.le_refl _⟩
      · obtain rfl : j = l.length := by omega
        rw [List.take_length] at hown
        have hR := Row.of_owns hown
        have hg := (hown.lt g rfl).1
        go_wp2
        go_ret
        exact ⟨g, cap, rfl, hg, hR, hu⟩
end Go.Proofs.YtjahmnenfknjgaaGreatDoor
namespace Go.Proofs.YtjahmnenfknjgaaGreatDoor
open Go.RowKit

set_option maxHeartbeats 1000000 in
theorem same_true (A1 A2 : Option Addr) (c1 c2 : Nat) (l : List Int) (w : World) (h1 : Rd w A1 (nums .i64 l)) (h2 : Rd w A2 (nums .i64 l)) (hm : l.length ≤ 2147483647) :
    Calls Tryz.prog 19 #[.slice A1 l.length c1, .slice A2 l.length c2] w fun e w' => e = .returned (.bool true) ∧ Upd [] w w' := by
  have hb : ((l.length : Int) != (l.length : Int)) = false := by simp
  go_enter Tryz.func19, Tryz.ntmps19
  go_wp2
  go_loopg [13] (l.length + 1) (fun k i wr => ∃ j : Nat, i = .int .i64 j ∧ j ≤ l.length ∧ Upd [] w wr ∧ Hid (l.length + 1 - j ≤ k))
  case atStart => exact ⟨0, rfl, by omega, Upd.refl _ _, Nat.le_refl _⟩
  case round =>
    obtain ⟨j, rfl, hj, hu, hk⟩ := hrel
    by_cases hlt : j < l.length
    · obtain ⟨g1, o1, rfl, hc1⟩ := (h1.keep hu).num j hlt
      obtain ⟨g2, o2, rfl, hc2⟩ := (h2.keep hu).num j hlt
      have hb2 : (nth l j != nth l j) = false := by simp
      go_wp2
      go_region
      all_goals (try go_wp2)
      all_goals
        go_roundg (l.length + 1 - (j + 1))
        case measure => have := hk.out; omega
        case rel => exact ⟨j + 1, by go_num, by omega, hu.drew, Nat.le_refl _⟩
    · go_wp2
      go_ret
      exact ⟨rfl, hu⟩

set_option maxHeartbeats 1000000 in
theorem sameWhere_true (A1 A2 A3 : Option Addr) (c1 c2 c3 : Nat) (a b v : List Int) (w : World) (h1 : Rd w A1 (nums .i64 a)) (h2 : Rd w A2 (nums .i64 b)) (h3 : Rd w A3 (nums .i64 v)) (hl1 : a.length = v.length) (hl2 : b.length = v.length)
    (he : ∀ j, j < v.length → nth v j ≠ -1 → nth a j = nth b j) (hm : v.length ≤ 2147483647) :
    Calls Tryz.prog 12 #[.slice A1 v.length c1, .slice A2 v.length c2, .slice A3 v.length c3] w fun e w' => e = .returned (.bool true) ∧ Upd [] w w' := by
  have hb : ((v.length : Int) != (v.length : Int)) = false := by simp
  have HE := Lib.hid he
  have HL1 := Lib.hid hl1
  have HL2 := Lib.hid hl2
  clear he hl1 hl2
  go_enter Tryz.func12, Tryz.ntmps12
  go_wp2
  go_loopg [23] (v.length + 1) (fun k i wr => ∃ j : Nat, i = .int .i64 j ∧ j ≤ v.length ∧ Upd [] w wr ∧ Hid (v.length + 1 - j ≤ k))
  case atStart => exact ⟨0, rfl, by omega, Upd.refl _ _, Nat.le_refl _⟩
  case round =>
    obtain ⟨j, rfl, hj, hu, hk⟩ := hrel
    by_cases hlt : j < v.length
    · obtain ⟨g1, o1, rfl, hc1⟩ := (h1.keep hu).num j (by rw [HL1.out]; exact hlt)
      obtain ⟨g2, o2, rfl, hc2⟩ := (h2.keep hu).num j (by rw [HL2.out]; exact hlt)
      obtain ⟨g3, o3, rfl, hc3⟩ := (h3.keep hu).num j hlt
      by_cases hv : nth v j = -1
      · have hb2 : (nth v j != -1) = false := by simpa using hv
        clear hv
        go_wp2
        go_region
        all_goals (try go_wp2)
        all_goals
          go_roundg (v.length + 1 - (j + 1))
          case measure => have := hk.out; omega
          case rel => exact ⟨j + 1, by go_num, by omega, hu.drew, Nat.le_refl _⟩
      · have hb2 : (nth v j != -1) = true := by simpa using hv
        have hb3 : (nth a j != nth b j) = false := by rw [HE.out j hlt hv]; simp
        clear hv
        go_wp2
        go_region
        all_goals (try go_wp2)
        all_goals
          go_roundg (v.length + 1 - (j + 1))
          case measure => have := hk.out; omega
          case rel => exact ⟨j + 1, by go_num, by omega, hu.drew, Nat.le_refl _⟩
    · go_wp2
      go_ret
      exact ⟨rfl, hu⟩

set_option maxHeartbeats 1000000 in
set_option maxRecDepth 100000 in
theorem signed_any (A1 A2 : Option Addr) (c1 c2 : Nat) (ks vs : List Int) (w : World) (h1 : Rd w A1 (nums .i64 ks)) (h2 : Rd w A2 (nums .i64 vs)) (hl : vs.length = ks.length) (hv : ∀ j, j < ks.length → 0 ≤ nth vs j ∧ nth vs j ≤ 1114111) (hm : ks.length ≤ 2147483647) :
    Calls Tryz.prog 10 #[.slice A1 ks.length c1, .slice A2 ks.length c2] w fun e w' => e = .returned (.slice (some ⟨w.heap.size, 0, none⟩) ks.length ks.length) ∧ Row w' w.heap.size 3 (nums .i64 (signed ks vs)) ∧ Upd [] w w' := by
  obtain ⟨i0, hi', hz0, hz1, hz2⟩ := info_parts info3
  have HL := Lib.hid hl
  have HV := Lib.hid hv
  clear hl hv
  go_enter Tryz.func10, Tryz.ntmps10
  go_wp2_with (at_make; refine wpList_make_full _ rfl _ _ 22 rfl w.heap.size 3 i0 (.int .i64 0) 1 Tryz.underlying22 hi' hz0 hz1 _ _ _ _ ks.length rfl rfl rfl rfl ?b1 ?b2 ?b3 ?_)
  case b1 => rw [hz2]; omega
  case b2 => unfold maxLen; omega
  case b3 => exact Nat.le_refl _
  intro w1 hown hgrow
  rw [made_nums] at hown
  have hO := Row.of_owns hown
  have hu : Upd [] w w1 := (Upd.refl _ _).grown0 hgrow
  clear hgrow hown
  go_wp2
  go_loopg [13] (ks.length + 1) (fun k i wr => ∃ (j : Nat) (out : List Int), i = .int .i64 j ∧ j ≤ ks.length ∧ Row wr w.heap.size 3 (nums .i64 out) ∧ Hid (out.length = ks.length) ∧ Hid (∀ q, q < j → nth out q = nth (signed ks vs) q) ∧ Hid (∀ q, j ≤ q → q < ks.length → nth out q = 0) ∧ Upd [] w wr ∧ Hid (ks.length + 1 - j ≤ k))
  case atStart => exact ⟨0, _, rfl, by omega, hO, (by simp : _ = _), (fun q h => by omega), (fun q _ h => nth_replicate h), hu, Nat.le_refl _⟩
  case round =>
    obtain ⟨j, out, rfl, hj, hO, HOL, HQ, HR, hu, hk⟩ := hrel
    by_cases hlt : j < ks.length
    · obtain ⟨g1, o1, rfl, hc1⟩ := (h1.keep hu).num j hlt
      obtain ⟨g2, o2, rfl, hc2⟩ := (h2.keep hu).num j (by rw [HL.out]; exact hlt)
      have hjo : j < out.length := by rw [HOL.out]; exact hlt
      have hoc := hO.num j hjo
      have hof := hO.free j
      have hlt0 := hO.lt
      have hv0 := (HV.out j hlt).1
      have hv1 := (HV.out j hlt).2
      have hsg := nth_signed (ks := ks) (vs := vs) hlt
      have set_ : ∀ x, nth (signed ks vs) j = x → Row (wr.setCell ⟨w.heap.size, j, none⟩ (.int .i64 x)) w.heap.size 3 (nums .i64 (out.set j x)) ∧ Hid ((out.set j x).length = ks.length) ∧ Hid (∀ q, q < j + 1 → nth (out.set j x) q = nth (signed ks vs) q) ∧ Hid (∀ q, j + 1 ≤ q → q < ks.length → nth (out.set j x) q = 0) := fun x hx =>
        ⟨hO.setNum j x hjo, (by simpa using HOL.out : _ = _), forall_succ (fun q hq => by rw [nth_set_ne (by omega)]; exact HQ.out q hq) (by rw [nth_set_self hjo, hx]), fun q h1 h2 => by rw [nth_set_ne (by omega)]; exact HR.out q (by omega) h2⟩
      have HSET := Lib.hid set_
      clear set_
      by_cases e1 : nth ks j = 1
      · have b1 : (nth ks j == 1) = true := by simpa using e1
        rw [if_pos e1] at hsg
        have R := HSET.out _ hsg
        clear e1 hsg
        go_wp2
        go_roundg (ks.length + 1 - (j + 1))
        case measure => have := hk.out; omega
        case rel => exact ⟨j + 1, _, by go_num, by omega, R.1, R.2.1, R.2.2.1, R.2.2.2, hu.setCell (.inr (Nat.le_refl _)) _, Nat.le_refl _⟩
      have b1 : (nth ks j == 1) = false := by simpa using e1
      rw [if_neg e1] at hsg
      by_cases e2 : nth ks j = 2
      · have b2 : (nth ks j == 2) = true := by simpa using e2
        rw [if_pos e2] at hsg
        have R := HSET.out _ hsg
        clear e1 e2 hsg
        go_wp2
        go_roundg (ks.length + 1 - (j + 1))
        case measure => have := hk.out; omega
        case rel => exact ⟨j + 1, _, by go_num, by omega, R.1, R.2.1, R.2.2.1, R.2.2.2, hu.setCell (.inr (Nat.le_refl _)) _, Nat.le_refl _⟩
      · have b2 : (nth ks j == 2) = false := by simpa using e2
        rw [if_neg e2] at hsg
        have R1 : Hid (∀ q, q < j + 1 → nth out q = nth (signed ks vs) q) := forall_succ HQ.out (by rw [hsg]; exact HR.out j (Nat.le_refl _) hlt)
        have R2 : Hid (∀ q, j + 1 ≤ q → q < ks.length → nth out q = 0) := fun q h1 h2 => HR.out q (by omega) h2
        clear e1 e2 hsg
        go_wp2
        go_roundg (ks.length + 1 - (j + 1))
        case measure => have := hk.out; omega
        case rel => exact ⟨j + 1, _, by go_num, by omega, hO, HOL, R1, R2, hu, Nat.le_refl _⟩
    · obtain rfl : j = ks.length := by omega
      have HE : Hid (out = signed ks vs) := ext_nth (by rw [HOL.out, signed_length]) (fun q hq => HQ.out q (by rw [← HOL.out]; exact hq))
      go_wp2
      go_ret
      exact ⟨rfl, by rw [← HE.out]; exact hO, hu⟩

set_option maxHeartbeats 2000000 in
set_option maxRecDepth 100000 in
theorem closes_any (A : Option Addr) (c : Nat) (cs : List Cl) (base : Int) (w : World) (hr : Rd w A (nums .i64 (clsI cs))) (hn : 0 < cs.length) (hm : cs.length ≤ 2147483647) (hbase : base = 0 ∨ base = 1) :
    Calls Tryz.prog 8 #[.slice A cs.length c, .int .i64 base] w fun e w' => SaysB (ClosP cs base) e ∧ Upd [] w w' := by
  have HB := Lib.hid hbase
  clear hbase
  go_enter Tryz.func8, Tryz.ntmps8
  go_wp2_with (go_at_call 32; refine (sExplicit_any A c cs base _ hr hn hm HB.out).mono ?_; rintro e w1 ⟨g1, c1, g2, c2, rfl, hg1, hg2, hne, hR1, hR2, hu⟩)
  have hl := tys_length cs base
  go_loopg [17] (cs.length + 1) (fun k i wr => ∃ j : Nat, i = .int .i64 j ∧ j ≤ cs.length ∧ Hid (∀ q, q < j → ¬ ((cat cs q = .PDI ∨ cat cs q = .NSM) ∧ cat (tys cs base) q ≠ cat cs q)) ∧ w1 = wr ∧ Hid (cs.length + 1 - j ≤ k))
  case atStart => exact ⟨0, rfl, by omega, (fun q h => by omega), rfl, Nat.le_refl _⟩
  case round =>
    obtain ⟨j, rfl, hj, HQ, rfl, hk⟩ := hrel
    by_cases hlt : j < cs.length
    · obtain ⟨g, o, rfl, hc⟩ := (hr.keep hu).num j (by rw [clsI_length]; exact hlt)
      rw [nth_clsI hlt] at hc
      have hc2 := hR2.num j (by rw [clsI_length, hl]; exact hlt)
      rw [nth_clsI (by rw [hl]; exact hlt)] at hc2
      have b0 : ((cat cs j).e1 == 22) = decide (cat cs j = .PDI) := Cl.e1_beq (cat cs j) .PDI
      have b1 : ((cat cs j).e1 == 12) = decide (cat cs j = .NSM) := Cl.e1_beq (cat cs j) .NSM
      have b2 := Cl.e1_beq (cat (tys cs base) j) (cat cs j)
      have HL := Lib.hid hl
      clear hl
      by_cases hp : cat cs j = .PDI ∨ cat cs j = .NSM
      · by_cases he : cat (tys cs base) j = cat cs j
        · rw [decide_eq_true he] at b2
          have b3 := bne_of b2
          simp only [Bool.not_true] at b3
          have HN : Hid (∀ q, q < j + 1 → ¬ ((cat cs q = .PDI ∨ cat cs q = .NSM) ∧ cat (tys cs base) q ≠ cat cs q)) := forall_succ HQ.out fun h => h.2 he
          generalize cat (tys cs base) j = t at *
          rcases hp with h | h
          all_goals
            rw [h] at b0 b1
            simp only [h] at hc b2 b3
            have HH := Lib.hid h
            clear h he
            go_wp2
            go_roundg (cs.length + 1 - (j + 1))
            case measure => have := hk.out; omega
            case rel => exact ⟨j + 1, by go_num, by omega, HN, rfl, Nat.le_refl _⟩
        · rw [decide_eq_false he] at b2
          have b3 := bne_of b2
          simp only [Bool.not_false] at b3
          have HP : Hid (ClosP cs base) := ⟨j, hlt, hp, he⟩
          generalize cat (tys cs base) j = t at *
          rcases hp with h | h
          all_goals
            rw [h] at b0 b1
            simp only [h] at hc b2 b3
            have HH := Lib.hid h
            clear h he
            go_wp2
            go_ret
            exact ⟨⟨true, rfl, by simpa using HP.out⟩, hu⟩
      · have HN : Hid (∀ q, q < j + 1 → ¬ ((cat cs q = .PDI ∨ cat cs q = .NSM) ∧ cat (tys cs base) q ≠ cat cs q)) := forall_succ HQ.out fun h => hp h.1
        rw [decide_eq_false (fun h => hp (.inl h))] at b0
        rw [decide_eq_false (fun h => hp (.inr h))] at b1
        clear hp
        go_wp2
        go_roundg (cs.length + 1 - (j + 1))
        case measure => have := hk.out; omega
        case rel => exact ⟨j + 1, by go_num, by omega, HN, rfl, Nat.le_refl _⟩
    · obtain rfl : j = cs.length := by omega
      have HP : Hid (¬ ClosP cs base) := fun ⟨q, h1, h2, h3⟩ => HQ.out q h1 ⟨h2, h3⟩
      go_wp2
      go_ret
      exact ⟨⟨false, rfl, by simpa using HP.out⟩, hu⟩
end Go.Proofs.YtjahmnenfknjgaaGreatDoor
namespace Go.Proofs.YtjahmnenfknjgaaGreatDoor
open Go.RowKit

theorem SaysB.yes1 {p : Prop} {e : Ending} (h : SaysB p e) (hp : p) : e = .returned (.bool true) := by
  obtain ⟨b, rfl, hb⟩ := h; rw [hb.2 hp]
theorem SaysB.no1 {p : Prop} {e : Ending} (h : SaysB p e) (hp : ¬ p) : e = .returned (.bool false) := by
  obtain ⟨b, rfl, hb⟩ := h
  cases b
  · rfl
  · exact absurd (hb.1 rfl) hp
def CaseP (ts ks vs : List Int) (base : Int) : Prop := ParP ts ∧ BrP ks vs ts.length ∧ ¬ MarkP ts ks ∧ openings ks ≤ 63 ∧ -1 ≤ base ∧ base ≤ 1

set_option maxHeartbeats 4000000 in
set_option maxRecDepth 100000 in
theorem isCase_any (A1 A2 A3 : Option Addr) (c1 c2 c3 : Nat) (ts ks vs : List Int) (base : Int) (w : World) (h1 : Rd w A1 (nums .i64 ts)) (h2 : Rd w A2 (nums .i64 ks)) (h3 : Rd w A3 (nums .i64 vs)) (m1 : ts.length ≤ 2147483647) (m2 : ks.length ≤ 2147483647) (m3 : vs.length ≤ 2147483647) :
    Calls Tryz.prog 6 #[.slice A1 ts.length c1, .slice A2 ks.length c2, .slice A3 vs.length c3, .int .i64 base] w fun e w' => SaysB (CaseP ts ks vs base) e ∧ w = w' := by
  have C1 := isParagraph_any A1 c1 ts w h1 m1
  have C2 := areBrackets_any A2 A3 c2 c3 ks vs ts.length w h2 h3 m2 m3 m1
  have C4 := Lib.hid (openings_any A2 c2 ks w h2 m2)
  have hog : (0 : Int) ≤ openings ks := by omega
  by_cases p1 : ParP ts
  · have D1 := Lib.hid (C1.mono (fun e w' h => And.intro (h.1.yes1 p1) h.2))
    by_cases p2 : BrP ks vs ts.length
    · have D2 := Lib.hid (C2.mono (fun e w' h => And.intro (h.1.yes1 p2) h.2))
      have C3 := marked_any A1 A2 c1 c2 ts ks w h1 h2 (by have := p2.1; omega) m1
      by_cases p3 : MarkP ts ks
      · have D3 := Lib.hid (C3.mono (fun e w' h => And.intro (h.1.yes1 p3) h.2))
        have HF : Hid (¬ CaseP ts ks vs base) := fun h => h.2.2.1 p3
        clear C1 C2 C3 p1 p2 p3
        go_enter Tryz.func6, Tryz.ntmps6
        go_wp2_with (first
          | (go_at_call 26; refine D1.out.mono ?_; rintro e w' ⟨rfl, rfl⟩)
          | (go_at_call 27; refine D2.out.mono ?_; rintro e w' ⟨rfl, rfl⟩)
          | (go_at_call 28; refine D3.out.mono ?_; rintro e w' ⟨rfl, rfl⟩))
        go_ret
        exact ⟨⟨false, rfl, by simp [HF.out]⟩, rfl⟩
      · have D3 := Lib.hid (C3.mono (fun e w' h => And.intro (h.1.no1 p3) h.2))
        have HF : Hid (CaseP ts ks vs base ↔ (openings ks ≤ 63 ∧ -1 ≤ base ∧ base ≤ 1)) := ⟨fun h => h.2.2.2, fun h => ⟨p1, p2, p3, h⟩⟩
        clear C1 C2 C3 p1 p2 p3
        by_cases q1 : (openings ks : Int) ≤ 63
        · by_cases q2 : -1 ≤ base
          · by_cases q3 : base ≤ 1
            · go_enter Tryz.func6, Tryz.ntmps6
              go_wp2_with (first
                | (go_at_call 26; refine D1.out.mono ?_; rintro e w' ⟨rfl, rfl⟩)
                | (go_at_call 27; refine D2.out.mono ?_; rintro e w' ⟨rfl, rfl⟩)
                | (go_at_call 28; refine D3.out.mono ?_; rintro e w' ⟨rfl, rfl⟩)
                | (go_at_call 29; refine C4.out.mono ?_; rintro e w' ⟨rfl, rfl⟩))
              go_ret
              exact ⟨⟨true, rfl, by simp only [true_iff]; exact HF.out.2 ⟨by omega, q2, q3⟩⟩, rfl⟩
            · go_enter Tryz.func6, Tryz.ntmps6
              go_wp2_with (first
                | (go_at_call 26; refine D1.out.mono ?_; rintro e w' ⟨rfl, rfl⟩)
                | (go_at_call 27; refine D2.out.mono ?_; rintro e w' ⟨rfl, rfl⟩)
                | (go_at_call 28; refine D3.out.mono ?_; rintro e w' ⟨rfl, rfl⟩)
                | (go_at_call 29; refine C4.out.mono ?_; rintro e w' ⟨rfl, rfl⟩))
              go_ret
              exact ⟨⟨_, rfl, by rw [decide_eq_false (show ¬ base ≤ 1 by omega)]; simp only [Bool.false_eq_true, false_iff]; intro h; have := (HF.out.1 h).2.2; omega⟩, rfl⟩
          · go_enter Tryz.func6, Tryz.ntmps6
            go_wp2_with (first
              | (go_at_call 26; refine D1.out.mono ?_; rintro e w' ⟨rfl, rfl⟩)
              | (go_at_call 27; refine D2.out.mono ?_; rintro e w' ⟨rfl, rfl⟩)
              | (go_at_call 28; refine D3.out.mono ?_; rintro e w' ⟨rfl, rfl⟩)
              | (go_at_call 29; refine C4.out.mono ?_; rintro e w' ⟨rfl, rfl⟩))
            go_ret
            exact ⟨⟨false, rfl, by simp only [Bool.false_eq_true, false_iff]; intro h; have := (HF.out.1 h).2.1; omega⟩, rfl⟩
        · go_enter Tryz.func6, Tryz.ntmps6
          go_wp2_with (first
            | (go_at_call 26; refine D1.out.mono ?_; rintro e w' ⟨rfl, rfl⟩)
            | (go_at_call 27; refine D2.out.mono ?_; rintro e w' ⟨rfl, rfl⟩)
            | (go_at_call 28; refine D3.out.mono ?_; rintro e w' ⟨rfl, rfl⟩)
            | (go_at_call 29; refine C4.out.mono ?_; rintro e w' ⟨rfl, rfl⟩))
          go_ret
          exact ⟨⟨false, rfl, by simp only [Bool.false_eq_true, false_iff]; intro h; have := (HF.out.1 h).1; omega⟩, rfl⟩
    · have D2 := Lib.hid (C2.mono (fun e w' h => And.intro (h.1.no1 p2) h.2))
      have HF : Hid (¬ CaseP ts ks vs base) := fun h => p2 h.2.1
      clear C1 C2 p1 p2
      go_enter Tryz.func6, Tryz.ntmps6
      go_wp2_with (first
        | (go_at_call 26; refine D1.out.mono ?_; rintro e w' ⟨rfl, rfl⟩)
        | (go_at_call 27; refine D2.out.mono ?_; rintro e w' ⟨rfl, rfl⟩))
      go_ret
      exact ⟨⟨false, rfl, by simp [HF.out]⟩, rfl⟩
  · have D1 := Lib.hid (C1.mono (fun e w' h => And.intro (h.1.no1 p1) h.2))
    have HF : Hid (¬ CaseP ts ks vs base) := fun h => p1 h.1
    clear C1 C2 p1
    go_enter Tryz.func6, Tryz.ntmps6
    go_wp2_with (go_at_call 26; refine D1.out.mono ?_; rintro e w' ⟨rfl, rfl⟩)
    go_ret
    exact ⟨⟨false, rfl, by simp [HF.out]⟩, rfl⟩
theorem isSpace_any (c : Cl) (w : World) : Calls Tryz.prog 89 #[.int .i64 c.e1] w fun e w' => e = .returned (.bool (c == .WS || c.isInit || c == .PDI)) ∧ w = w' := by
  have H := Lib.hid (fun w => isInit_any c w)
  cases c <;> (simp only [Cl.e1, Cl.isInit] at H ⊢; go_enter Tryz.func89, Tryz.ntmps89; go_wp2_with (go_at_call 59; refine (H.out _).mono ?_; rintro e w' ⟨rfl, rfl⟩); go_ret; exact ⟨rfl, rfl⟩)
end Go.Proofs.YtjahmnenfknjgaaGreatDoor
