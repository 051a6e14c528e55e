/- The guards of the statements and small functions of the set, each by its contract. -/
import Derived.Test.YtjahmnenfknjgaaGreatDoorG1
set_option linter.unusedVariables false
set_option linter.unusedSimpArgs false
namespace Go.Proofs.YtjahmnenfknjgaaGreatDoor
open Go.RowKit

/-- A bool that says p. -/
def SaysB (p : Prop) (e : Ending) : Prop := ∃ b : Bool, e = .returned (.bool b) ∧ (b = true ↔ p)

def ParP (l : List Int) : Prop := 0 < l.length ∧ ∀ j, j < l.length → 0 ≤ nth l j ∧ nth l j < 23 ∧ (nth l j = 7 → j + 1 = l.length)
def BrP (ks vs : List Int) (n : Nat) : Prop := ks.length = n ∧ vs.length = n ∧ ∀ j, j < n → 0 ≤ nth ks j ∧ nth ks j ≤ 2 ∧ (nth ks j = 0 → nth vs j = 0) ∧ (0 < nth ks j → 1 ≤ nth vs j ∧ nth vs j ≤ 1114111)
def MarkP (ts ks : List Int) : Prop := ∃ j, j < ks.length ∧ 0 < nth ks j ∧ nth ts j = 12
def openings (ks : List Int) : Nat := (ks.filter fun k => k == 1).length

set_option maxHeartbeats 1000000 in
theorem isParagraph_any (A : Option Addr) (c : Nat) (l : List Int) (w : World) (hr : Rd w A (nums .i64 l)) (hm : l.length ≤ 2147483647) :
    Calls Tryz.prog 26 #[.slice A l.length c] w fun e w' => SaysB (ParP l) e ∧ w = w' := by
  go_enter Tryz.func26, Tryz.ntmps26
  go_wp2
  go_loopg [7] (l.length + 1) (fun k i wr => ∃ j : Nat, i = .int .i64 j ∧ j ≤ l.length ∧ Hid (∀ q, q < j → 0 ≤ nth l q ∧ nth l q < 23 ∧ (nth l q = 7 → q + 1 = l.length)) ∧ w = wr ∧ Hid (l.length + 1 - j ≤ k))
  case atStart => exact ⟨0, rfl, by omega, (fun q h => by omega), rfl, Nat.le_refl _⟩
  case round =>
    obtain ⟨j, rfl, hj, HQ, rfl, hk⟩ := hrel
    by_cases hlt : j < l.length
    · obtain ⟨g, o, rfl, hc⟩ := hr.num j hlt
      by_cases h0 : nth l j < 0
      · have HN : Hid (¬ ParP l) := fun h => by have := h.2 j hlt; omega
        go_wp2
        go_ret
        exact ⟨⟨false, rfl, by simpa using HN.out⟩, rfl⟩
      by_cases h1 : 23 ≤ nth l j
      · have HN : Hid (¬ ParP l) := fun h => by have := h.2 j hlt; omega
        go_wp2
        go_ret
        exact ⟨⟨false, rfl, by simpa using HN.out⟩, rfl⟩
      by_cases h7 : nth l j = 7
      · have hb : (nth l j == 7) = true := by simpa using h7
        by_cases hl : j + 1 < l.length
        · have HN : Hid (¬ ParP l) := fun h => by have := h.2 j hlt; omega
          clear h7 
          go_wp2
          go_ret
          exact ⟨⟨false, rfl, by simpa using HN.out⟩, rfl⟩
        · have HN : Hid (∀ q, q < j + 1 → 0 ≤ nth l q ∧ nth l q < 23 ∧ (nth l q = 7 → q + 1 = l.length)) := by
            intro q hq
            by_cases e : q = j
            · subst e; exact ⟨by omega, by omega, fun _ => by omega⟩
            · exact HQ.out q (by omega)
          clear h7
          go_wp2
          go_roundg (l.length + 1 - (j + 1))
          case measure => have := hk.out; omega
          case rel => exact ⟨j + 1, by go_num, by omega, HN, rfl, Nat.le_refl _⟩
      · have hb : (nth l j == 7) = false := by simpa using h7
        have HN : Hid (∀ q, q < j + 1 → 0 ≤ nth l q ∧ nth l q < 23 ∧ (nth l q = 7 → q + 1 = l.length)) := by
          intro q hq
          by_cases e : q = j
          · subst e; exact ⟨by omega, by omega, fun h => absurd h h7⟩
          · exact HQ.out q (by omega)
        clear h7
        go_wp2
        go_roundg (l.length + 1 - (j + 1))
        case measure => have := hk.out; omega
        case rel => exact ⟨j + 1, by go_num, by omega, HN, rfl, Nat.le_refl _⟩
    · obtain rfl : j = l.length := by omega
      by_cases hz : 0 < l.length
      · have HP : Hid (ParP l) := ⟨hz, HQ.out⟩
        go_wp2
        go_ret
        exact ⟨⟨true, rfl, by simpa using HP.out⟩, rfl⟩
      · have HP : Hid (¬ ParP l) := fun h => hz h.1
        go_wp2
        go_ret
        exact ⟨⟨false, rfl, by simpa using HP.out⟩, rfl⟩

theorem forall_succ {P : Nat → Prop} {j : Nat} (h : ∀ q, q < j → P q) (hj : P j) : ∀ q, q < j + 1 → P q := by
  intro q hq
  by_cases e : q = j
  · subst e; exact hj
  · exact h q (by omega)

set_option maxHeartbeats 4000000 in
theorem areBrackets_any (A1 A2 : Option Addr) (c1 c2 : Nat) (ks vs : List Int) (n : Nat) (w : World) (hk : Rd w A1 (nums .i64 ks)) (hv : Rd w A2 (nums .i64 vs)) (hmk : ks.length ≤ 2147483647) (hmv : vs.length ≤ 2147483647) (hmn : n ≤ 2147483647) :
    Calls Tryz.prog 27 #[.slice A1 ks.length c1, .slice A2 vs.length c2, .int .i64 n] w fun e w' => SaysB (BrP ks vs n) e ∧ w = w' := by
  by_cases hl1 : ks.length = n
  case neg =>
    have hb : ((ks.length : Int) != (n : Int)) = true := by simp; omega
    have HN : Hid (¬ BrP ks vs n) := fun h => hl1 h.1
    clear hl1
    go_enter Tryz.func27, Tryz.ntmps27
    go_wp2
    go_ret
    exact ⟨⟨false, rfl, by simpa using HN.out⟩, rfl⟩
  by_cases hl2 : vs.length = n
  case neg =>
    have hb1 : ((ks.length : Int) != (n : Int)) = false := by simp; omega
    have hb : ((vs.length : Int) != (n : Int)) = true := by simp; omega
    have HN : Hid (¬ BrP ks vs n) := fun h => hl2 h.2.1
    clear hl1 hl2
    go_enter Tryz.func27, Tryz.ntmps27
    go_wp2
    go_ret
    exact ⟨⟨false, rfl, by simpa using HN.out⟩, rfl⟩
  have hb1 : ((ks.length : Int) != (n : Int)) = false := by simp; omega
  have hb2 : ((vs.length : Int) != (n : Int)) = false := by simp; omega
  have HL1 := Lib.hid hl1
  have HL2 := Lib.hid hl2
  have hl12 : ks.length ≤ vs.length := by omega
  clear hl1 hl2
  go_enter Tryz.func27, Tryz.ntmps27
  go_wp2
  go_loopg [21] (ks.length + 1) (fun k i wr => ∃ j : Nat, i = .int .i64 j ∧ j ≤ ks.length ∧ Hid (∀ q, q < j → 0 ≤ nth ks q ∧ nth ks q ≤ 2 ∧ (nth ks q = 0 → nth vs q = 0) ∧ (0 < nth ks q → 1 ≤ nth vs q ∧ nth vs q ≤ 1114111)) ∧ w = wr ∧ Hid (ks.length + 1 - j ≤ k))
  case atStart => exact ⟨0, rfl, by omega, (fun q h => by omega), rfl, Nat.le_refl _⟩
  case round =>
    obtain ⟨j, rfl, hj, HQ, rfl, hgk⟩ := hrel
    by_cases hlt : j < ks.length
    · obtain ⟨g, o, rfl, hc⟩ := hk.num j hlt
      have hlt2 : j < vs.length := by omega
      obtain ⟨g2, o2, rfl, hc2⟩ := hv.num j hlt2
      have hjn : j < n := by have := HL1.out; omega
      by_cases h0 : nth ks j < 0
      · have HN : Hid (¬ BrP ks vs n) := fun h => by have := h.2.2 j hjn; omega
        clear hjn
        go_wp2
        go_ret
        exact ⟨⟨false, rfl, by simpa using HN.out⟩, rfl⟩
      by_cases h1 : 2 < nth ks j
      · have HN : Hid (¬ BrP ks vs n) := fun h => by have := h.2.2 j hjn; omega
        clear hjn
        go_wp2
        go_ret
        exact ⟨⟨false, rfl, by simpa using HN.out⟩, rfl⟩
      by_cases h7 : nth ks j = 0
      · have hb : (nth ks j == 0) = true := by simpa using h7
        have hnp : nth ks j ≤ 0 := by omega
        by_cases hv0 : nth vs j = 0
        · have hbv : (nth vs j != 0) = false := by simpa using hv0
          have HN : Hid (∀ q, q < j + 1 → 0 ≤ nth ks q ∧ nth ks q ≤ 2 ∧ (nth ks q = 0 → nth vs q = 0) ∧ (0 < nth ks q → 1 ≤ nth vs q ∧ nth vs q ≤ 1114111)) :=
            forall_succ HQ.out ⟨by omega, by omega, fun _ => hv0, fun _ => by omega⟩
          clear h7 hv0 hjn
          go_wp2
          go_roundg (ks.length + 1 - (j + 1))
          case measure => have := hgk.out; omega
          case rel => exact ⟨j + 1, by go_num, by omega, HN, rfl, Nat.le_refl _⟩
        · have hbv : (nth vs j != 0) = true := by simpa using hv0
          have HN : Hid (¬ BrP ks vs n) := fun h => hv0 ((h.2.2 j hjn).2.2.1 h7)
          clear h7 hv0 hjn
          go_wp2
          go_ret
          exact ⟨⟨false, rfl, by simpa using HN.out⟩, rfl⟩
      · have hb : (nth ks j == 0) = false := by simpa using h7
        have hpos : 0 < nth ks j := by omega
        by_cases hv1 : nth vs j < 1
        · have HN : Hid (¬ BrP ks vs n) := fun h => by have := h.2.2 j hjn; omega
          clear h7 hjn
          go_wp2
          go_ret
          exact ⟨⟨false, rfl, by simpa using HN.out⟩, rfl⟩
        by_cases hv2 : 1114111 < nth vs j
        · have HN : Hid (¬ BrP ks vs n) := fun h => by have := h.2.2 j hjn; omega
          clear h7 hjn
          go_wp2
          go_ret
          exact ⟨⟨false, rfl, by simpa using HN.out⟩, rfl⟩
        have HN : Hid (∀ q, q < j + 1 → 0 ≤ nth ks q ∧ nth ks q ≤ 2 ∧ (nth ks q = 0 → nth vs q = 0) ∧ (0 < nth ks q → 1 ≤ nth vs q ∧ nth vs q ≤ 1114111)) :=
          forall_succ HQ.out ⟨by omega, by omega, fun _ => by omega, fun _ => by omega⟩
        clear h7 hjn
        go_wp2
        go_roundg (ks.length + 1 - (j + 1))
        case measure => have := hgk.out; omega
        case rel => exact ⟨j + 1, by go_num, by omega, HN, rfl, Nat.le_refl _⟩
    · obtain rfl : j = ks.length := by omega
      have HP : Hid (BrP ks vs n) := ⟨HL1.out, HL2.out, by have := HQ.out; rw [HL1.out] at this; exact this⟩
      go_wp2
      go_ret
      exact ⟨⟨true, rfl, by simpa using HP.out⟩, rfl⟩

set_option maxHeartbeats 1000000 in
theorem marked_any (A1 A2 : Option Addr) (c1 c2 : Nat) (ts ks : List Int) (w : World) (ht : Rd w A1 (nums .i64 ts)) (hk : Rd w A2 (nums .i64 ks)) (hl : ks.length ≤ ts.length) (hm : ts.length ≤ 2147483647) :
    Calls Tryz.prog 28 #[.slice A1 ts.length c1, .slice A2 ks.length c2] w fun e w' => SaysB (MarkP ts ks) e ∧ w = w' := by
  go_enter Tryz.func28, Tryz.ntmps28
  go_wp2
  go_loopg [9] (ks.length + 1) (fun k i wr => ∃ j : Nat, i = .int .i64 j ∧ j ≤ ks.length ∧ Hid (∀ q, q < j → ¬ (0 < nth ks q ∧ nth ts q = 12)) ∧ w = wr ∧ Hid (ks.length + 1 - j ≤ k))
  case atStart => exact ⟨0, rfl, by omega, (fun q h => by omega), rfl, Nat.le_refl _⟩
  case round =>
    obtain ⟨j, rfl, hj, HQ, rfl, hgk⟩ := hrel
    by_cases hlt : j < ks.length
    · obtain ⟨g, o, rfl, hc⟩ := hk.num j hlt
      have hlt2 : j < ts.length := by omega
      obtain ⟨g2, o2, rfl, hc2⟩ := ht.num j hlt2
      by_cases h0 : 0 < nth ks j
      · by_cases h1 : nth ts j = 12
        · have hb : (nth ts j == 12) = true := by simpa using h1
          have HP : Hid (MarkP ts ks) := ⟨j, hlt, h0, h1⟩
          clear h1
          go_wp2
          go_ret
          exact ⟨⟨true, rfl, by simpa using HP.out⟩, rfl⟩
        · have hb : (nth ts j == 12) = false := by simpa using h1
          have HN : Hid (∀ q, q < j + 1 → ¬ (0 < nth ks q ∧ nth ts q = 12)) := forall_succ HQ.out fun h => h1 h.2
          clear h1
          go_wp2
          go_roundg (ks.length + 1 - (j + 1))
          case measure => have := hgk.out; omega
          case rel => exact ⟨j + 1, by go_num, by omega, HN, rfl, Nat.le_refl _⟩
      · have HN : Hid (∀ q, q < j + 1 → ¬ (0 < nth ks q ∧ nth ts q = 12)) := forall_succ HQ.out fun h => h0 h.1
        go_wp2
        go_roundg (ks.length + 1 - (j + 1))
        case measure => have := hgk.out; omega
        case rel => exact ⟨j + 1, by go_num, by omega, HN, rfl, Nat.le_refl _⟩
    · obtain rfl : j = ks.length := by omega
      have HP : Hid (¬ MarkP ts ks) := fun ⟨q, h1, h2, h3⟩ => HQ.out q h1 ⟨h2, h3⟩
      go_wp2
      go_ret
      exact ⟨⟨false, rfl, by simpa using HP.out⟩, rfl⟩

theorem openings_succ {ks : List Int} {j : Nat} (h : j < ks.length) : openings (ks.take (j + 1)) = openings (ks.take j) + if nth ks j = 1 then 1 else 0 := by
  unfold openings
  rw [List.take_succ_eq_append_getElem h, List.filter_append, List.length_append, nth_eq h]
  by_cases e : nth ks j = 1 <;> simp [e]
theorem openings_le (ks : List Int) : openings ks ≤ ks.length := List.length_filter_le _ _

set_option maxHeartbeats 1000000 in
theorem openings_any (A : Option Addr) (c : Nat) (ks : List Int) (w : World) (hr : Rd w A (nums .i64 ks)) (hm : ks.length ≤ 2147483647) :
    Calls Tryz.prog 29 #[.slice A ks.length c] w fun e w' => e = .returned (.int .i64 (openings ks)) ∧ w = w' := by
  go_enter Tryz.func29, Tryz.ntmps29
  go_wp2
  go_loopg [3, 8] (ks.length + 1) (fun k s i wr => ∃ j : Nat, ∃ m : Nat, i = .int .i64 j ∧ j ≤ ks.length ∧ s = .int .i64 m ∧ m ≤ j ∧ Hid (m = openings (ks.take j)) ∧ w = wr ∧ Hid (ks.length + 1 - j ≤ k))
  case atStart => exact ⟨0, 0, rfl, by omega, rfl, by omega, rfl, rfl, Nat.le_refl _⟩
  case round =>
    obtain ⟨j, m, rfl, hj, rfl, hmj, HM, rfl, hgk⟩ := hrel
    by_cases hlt : j < ks.length
    · obtain ⟨g, o, rfl, hc⟩ := hr.num j hlt
      have hs := openings_succ hlt
      by_cases h1 : nth ks j = 1
      · have hb : (nth ks j == 1) = true := by simpa using h1
        rw [if_pos h1, ← HM.out] at hs
        have HS := Lib.hid hs
        clear h1 hs
        go_wp2
        go_roundg (ks.length + 1 - (j + 1))
        case measure => have := hgk.out; omega
        case rel => exact ⟨j + 1, m + 1, by go_num, by omega, by go_num, by omega, HS.out.symm, rfl, Nat.le_refl _⟩
      · have hb : (nth ks j == 1) = false := by simpa using h1
        rw [if_neg h1, ← HM.out] at hs
        have HS := Lib.hid hs
        clear h1 hs
        go_wp2
        go_roundg (ks.length + 1 - (j + 1))
        case measure => have := hgk.out; omega
        case rel => exact ⟨j + 1, m, by go_num, by omega, by go_num, by omega, HS.out.symm, rfl, Nat.le_refl _⟩
    · obtain rfl : j = ks.length := by omega
      rw [List.take_length] at HM
      go_wp2
      go_ret
      exact ⟨ret_int (by rw [HM.out]), rfl⟩

theorem isInit_any (c : Cl) (w : World) : Calls Tryz.prog 59 #[.int .i64 c.e1] w fun e w' => e = .returned (.bool c.isInit) ∧ w = w' := by
  cases c <;> (simp only [Cl.e1, Cl.isInit]; go_enter Tryz.func59, Tryz.ntmps59; go_wp2; go_ret; exact ⟨rfl, rfl⟩)
theorem isRem_any (c : Cl) (w : World) : Calls Tryz.prog 62 #[.int .i64 c.e1] w fun e w' => e = .returned (.bool c.isRem) ∧ w = w' := by
  cases c <;> (simp only [Cl.e1, Cl.isRem]; go_enter Tryz.func62, Tryz.ntmps62; go_wp2; go_ret; exact ⟨rfl, rfl⟩)
end Go.Proofs.YtjahmnenfknjgaaGreatDoor
namespace Go.Proofs.YtjahmnenfknjgaaGreatDoor
open Go.RowKit

set_option maxHeartbeats 1000000 in
set_option maxRecDepth 100000 in
theorem matching_any (A : Option Addr) (c : Nat) (cs : List Cl) (w : World) (hr : Rd w A (nums .i64 (clsI cs))) (hm : cs.length ≤ 2147483647) :
    Calls Tryz.prog 31 #[.slice A cs.length c] w fun e w' => e = .returned (.slice (some ⟨w.heap.size, 0, none⟩) cs.length cs.length) ∧ Row w' w.heap.size 3 (nums .i64 (mt cs)) ∧ Upd [] w w' := by
  obtain ⟨i0, hi', hz0, hz1, hz2⟩ := info_parts info3
  go_enter Tryz.func31, Tryz.ntmps31
  go_wp2_with (at_make; refine wpList_make_full _ rfl _ _ 22 rfl w.heap.size 3 i0 (.int .i64 0) 1 Tryz.underlying22 hi' hz0 hz1 _ _ _ _ cs.length rfl rfl rfl rfl ?b1 ?b2 ?b3 ?_)
  case b1 => rw [hz2]; omega
  case b2 => unfold maxLen; omega
  case b3 => exact Nat.le_refl _
  intro w1 hown hgrow
  rw [made_nums] at hown
  have hO := Row.of_owns hown
  have hu : Upd [] w w1 := (Upd.refl _ _).grown0 hgrow
  have hz : w1.heap.size = w1.heap.size := rfl
  have hlt0 := hO.lt
  clear hgrow hown hz
  go_wp2
  have hown := World.ownsRow_lit (base := w1.heap.size) (e := 3) (size := 1) w1 #[] 0 (Nat.le_refl _) (by decide) rfl
  go_loopg [4, 13] (cs.length + 1) (fun k s i wr => ∃ (j g cap : Nat) (out : List Int) (st : List Nat), i = .int .i64 j ∧ j ≤ cs.length ∧ s = .slice (some ⟨g, 0, none⟩) st.length cap ∧ st.length ≤ cap ∧
      wr.ownsRow w1.heap.size 3 1 (.slice (some ⟨g, 0, none⟩) st.length cap) st.length (nums .i64 (nats st.reverse)) ∧ Row wr w.heap.size 3 (nums .i64 out) ∧ StkM cs j out st ∧ st.length ≤ j ∧ Upd [] w wr ∧ w1.heap.size ≤ wr.heap.size ∧ Hid (cs.length + 1 - j ≤ k))
  case atStart => exact ⟨0, w1.heap.size, 0, _, [], rfl, by omega, rfl, Nat.le_refl _, hown, hO.alloc _, StkM.start cs, Nat.le_refl _, hu.alloc _, by simp, Nat.le_refl _⟩
  case round =>
    obtain ⟨j, g, cap, out, st, rfl, hj, rfl, hcap, hown, hO, hS, hst, hu, hsz, hk⟩ := hrel
    by_cases hlt : j < cs.length
    · obtain ⟨ga, oa, rfl, hc⟩ := (hr.keep hu).num j (by rw [clsI_length]; exact hlt)
      rw [nth_clsI hlt] at hc
      have hol : j < out.length := by rw [hS.len]; exact hlt
      have hoc := hO.num j hol
      have hof := hO.free j
      have hO1 := hO.setNum j (-1) hol
      have hown1 := ownsRow_setCell_below hown (a := ⟨w.heap.size, j, none⟩) hlt0 (.int .i64 (-1))
      by_cases hi : (cat cs j).isInit = true
      · have hown2 := ownsRow_setCell_below hown1 (a := ⟨w.heap.size, j, none⟩) hlt0 (.int .i64 cs.length)
        have hO2 := hO1.setNum j cs.length (by simpa using hol)
        have hS2 := hS.push hlt hi
        have hu2 := (hu.setCell (p := ⟨w.heap.size, j, none⟩) (.inr (Nat.le_refl _)) (.int .i64 (-1))).setCell (p := ⟨w.heap.size, j, none⟩) (.inr (Nat.le_refl _)) (.int .i64 cs.length)
        go_wp2_with (first | (go_at_call 59; refine (isInit_any _ _).mono ?_; rintro e w' ⟨rfl, rfl⟩) | (at_builtin; go_must (refine wpList_append_own _ rfl (.tmp 29) (.tmp 31) 22 rfl w1.heap.size 3 i0 (.int .i64 0) 1 8 Tryz.underlying22 hi' hz0 hz1 hz2 rfl (by decide) _ st.length _ rfl (hown2.alloc _) ⟨wr.heap.size, 0, none⟩ 1 1 [.int .i64 j] rfl rfl (one_at _ _ (by simp) _ _) (one_int _ _) (by unfold maxLen; omega) (by omega) (by simp; omega) ?_); intro v' w2 hown3 hgrow3 _))
        obtain ⟨g', c', rfl, hg'⟩ := owns_slice hown3 (by omega)
        have hgw := hown.lt g rfl
        have hO3 := (hO2.alloc (.cells #[.int .i64 j] 3)).grown hgrow3 (fun e => by have := Option.some.inj e; simp only [] at this; omega)
        have hu3 := (hu2.alloc (.cells #[.int .i64 j] 3)).grown hgrow3 (fun k e => by have := Option.some.inj e; simp only [] at this; exact .inr (by omega))
        have hcap' := owns_cap hown3
        have hsz3 : w1.heap.size ≤ w2.heap.size := by have := hgrow3.size; simp at this; omega
        rw [show nums .i64 (nats st.reverse) ++ [Value.int .i64 j] = nums .i64 (nats (j :: st).reverse) by simp [nums, nats]] at hown3
        clear hgrow3 hown2 hO2 hown1 hO1 hu2
        go_roundg (cs.length + 1 - (j + 1))
        case measure => have := hk.out; omega
        case rel => exact ⟨j + 1, g', c', _, j :: st, by go_num, by omega, rfl, hcap', hown3, hO3, hS2, by simp; omega, hu3, hsz3, Nat.le_refl _⟩
      have hi0 : (cat cs j).isInit = false := by simpa using hi
      have hu1 := hu.setCell (p := ⟨w.heap.size, j, none⟩) (.inr (Nat.le_refl _)) (.int .i64 (-1))
      have hbq : ((cat cs j).e1 == 22) = decide (cat cs j = .PDI) := Cl.e1_beq (cat cs j) .PDI
      by_cases hp : cat cs j = .PDI
      · rw [decide_eq_true hp] at hbq
        match st, hst, hcap, hown, hown1, hS with
        | [], hst, hcap, hown, hown1, hS =>
          have hS2 := hS.other hlt hi0 (.inr rfl)
          have HP := Lib.hid hp
          clear hp hi
          go_wp2_with (go_at_call 59; refine (isInit_any _ _).mono ?_; rintro e w' ⟨rfl, rfl⟩)
          go_roundg (cs.length + 1 - (j + 1))
          case measure => have := hk.out; omega
          case rel => exact ⟨j + 1, g, cap, _, [], by go_num, by omega, rfl, hcap, hown1, hO1, hS2, by simp, hu1, by simpa using hsz, Nat.le_refl _⟩
        | t :: st, hst, hcap, hown, hown1, hS =>
          have hS2 := hS.pop hlt hp
          have htj := hS.lt t (by simp)
          have hrt := Row.of_owns hown1
          have hlst : (nats (t :: st).reverse).length = st.length + 1 := by simp [nats]
          have hct := hrt.num st.length (by rw [hlst]; omega)
          rw [nth_nats (by simp), show nat (t :: st).reverse st.length = t by rw [List.reverse_cons]; have := nat_last st.reverse t; rwa [List.length_reverse] at this] at hct
          have hO2 := hO1.setNum t j (by simp; omega)
          have hu2 := hu1.setCell (p := ⟨w.heap.size, t, none⟩) (.inr (Nat.le_refl _)) (.int .i64 j)
          have hto := hO1.num t (by simp; omega)
          have hof2 := hO.free t
          have hown2 := ownsRow_setCell_below hown1 (a := ⟨w.heap.size, t, none⟩) hlt0 (.int .i64 j)
          have hown3 := ownsRow_pop (size := 1) (xs := nums .i64 (nats st.reverse)) (last := [.int .i64 t]) (n := st.length) (by simp [nums, nats]) (by simpa [nums, nats] using hown2)
          have HP := Lib.hid hp
          clear hp hi hrt hlst hown2 hown1 hown
          simp only [List.length_cons] at *
          go_wp2_with (go_at_call 59; refine (isInit_any _ _).mono ?_; rintro e w' ⟨rfl, rfl⟩)
          go_roundg (cs.length + 1 - (j + 1))
          case measure => have := hk.out; omega
          case rel => exact ⟨j + 1, g, cap, _, st, by go_num, by omega, rfl, by omega, hown3, hO2, hS2, by omega, hu2, by simpa using hsz, Nat.le_refl _⟩
      · rw [decide_eq_false hp] at hbq
        have hS2 := hS.other hlt hi0 (.inl hp)
        clear hp hi
        go_wp2_with (go_at_call 59; refine (isInit_any _ _).mono ?_; rintro e w' ⟨rfl, rfl⟩)
        go_roundg (cs.length + 1 - (j + 1))
        case measure => have := hk.out; omega
        case rel => exact ⟨j + 1, g, cap, _, st, by go_num, by omega, rfl, hcap, hown1, hO1, hS2, by omega, hu1, by simpa using hsz, Nat.le_refl _⟩
    · obtain rfl : j = cs.length := by omega
      have HE := Lib.hid hS.fin
      go_wp2
      go_ret
      exact ⟨rfl, by rw [← HE.out]; exact hO, hu⟩

set_option maxHeartbeats 1000000 in
theorem firstStrong_any (A1 A2 : Option Addr) (c1 c2 : Nat) (cs : List Cl) (a b : Nat) (d : Int) (w : World) (hr : Rd w A1 (nums .i64 (clsI cs))) (hq : Rd w A2 (nums .i64 (mt cs))) (hb : b ≤ cs.length) (hm : cs.length ≤ 2147483647) (ha : a ≤ 2147483648) :
    Calls Tryz.prog 30 #[.slice A1 cs.length c1, .slice A2 cs.length c2, .int .i64 a, .int .i64 b, .int .i64 d] w fun e w' => e = .returned (.int .i64 ((fs cs a b).getD d)) ∧ w = w' := by
  have HF : Hid (∀ f, b < a + f → fsF cs b f a = fs cs a b) := fun f hf => fsF_more cs b _ _ a (by omega) (by omega)
  generalize fs cs a b = r at *
  go_enter Tryz.func30, Tryz.ntmps30
  go_wp2
  go_loopg [11] (b + 1 - a) (fun k i wr => ∃ j : Nat, i = .int .i64 j ∧ j ≤ 2147483648 ∧ Hid (∀ f, b < j + f → fsF cs b f j = r) ∧ w = wr ∧ Hid (b + 1 - j ≤ k))
  case atStart => exact ⟨a, rfl, ha, HF, rfl, Nat.le_refl _⟩
  case round =>
    obtain ⟨j, rfl, hj, HF, rfl, hk⟩ := hrel
    by_cases hlt : j < b
    · obtain ⟨g1, o1, rfl, hc⟩ := hr.num j (by rw [clsI_length]; omega)
      rw [nth_clsI (by omega)] at hc
      have hlc : j < cs.length := by omega
      have h0 := HF.out (b + 1) (by omega)
      simp only [fsF] at h0
      rw [if_pos hlt] at h0
      have hb0 : ((cat cs j).e1 == 0) = decide (cat cs j = .L) := Cl.e1_beq (cat cs j) .L
      have hb1 : ((cat cs j).e1 == 1) = decide (cat cs j = .R) := Cl.e1_beq (cat cs j) .R
      have hb2 : ((cat cs j).e1 == 13) = decide (cat cs j = .AL) := Cl.e1_beq (cat cs j) .AL
      by_cases hL : cat cs j = .L
      · rw [if_pos hL] at h0
        rw [decide_eq_true hL] at hb0
        subst h0
        clear hL hb1 hb2
        go_wp2
        go_ret
        exact ⟨rfl, rfl⟩
      rw [if_neg hL] at h0
      rw [decide_eq_false hL] at hb0
      by_cases hR : cat cs j = .R
      · rw [if_pos (.inl hR)] at h0
        rw [decide_eq_true hR] at hb1
        subst h0
        clear hL hR hb2
        go_wp2
        go_ret
        exact ⟨rfl, rfl⟩
      rw [decide_eq_false hR] at hb1
      by_cases hA : cat cs j = .AL
      · rw [if_pos (.inr hA)] at h0
        rw [decide_eq_true hA] at hb2
        subst h0
        clear hL hR hA
        go_wp2
        go_ret
        exact ⟨rfl, rfl⟩
      rw [decide_eq_false hA] at hb2
      rw [if_neg (by simp [hR, hA])] at h0
      by_cases hi : (cat cs j).isInit = true
      · rw [if_pos hi] at h0
        obtain ⟨g2, o2, rfl, hc2⟩ := hq.num j (by rw [mt_length]; omega)
        rw [nth_mt hlc, mAt_init hi] at hc2
        have hmg := mOf_gt hlc
        have hml := mOf_le cs j
        have HF2 : Hid (∀ f, b < (mOf cs j + 1) + f → fsF cs b f (mOf cs j + 1) = r) := fun f hf => by rw [← h0]; exact fsF_more cs b _ _ _ (by omega) (by omega)
        clear h0 hL hR hA
        go_wp2_with (go_at_call 59; refine (isInit_any _ _).mono ?_; rintro e w' ⟨rfl, rfl⟩)
        go_roundg (b + 1 - (mOf cs j + 1))
        case measure => have := hk.out; omega
        case rel => exact ⟨mOf cs j + 1, by go_num, by omega, HF2, rfl, Nat.le_refl _⟩
      · rw [if_neg hi] at h0
        have HF2 : Hid (∀ f, b < (j + 1) + f → fsF cs b f (j + 1) = r) := fun f hf => by rw [← h0]; exact fsF_more cs b _ _ _ (by omega) (by omega)
        have hi0 : (cat cs j).isInit = false := by simpa using hi
        clear h0 hL hR hA hi
        go_wp2_with (go_at_call 59; refine (isInit_any _ _).mono ?_; rintro e w' ⟨rfl, rfl⟩)
        go_roundg (b + 1 - (j + 1))
        case measure => have := hk.out; omega
        case rel => exact ⟨j + 1, by go_num, by omega, HF2, rfl, Nat.le_refl _⟩
    · have h0 := HF.out 1 (by omega)
      simp only [fsF] at h0
      rw [if_neg hlt] at h0
      subst h0
      go_wp2
      go_ret
      exact ⟨rfl, rfl⟩

/-- The paragraph's level. -/
def baseOf (cs : List Cl) (g : Int) : Int := if g = 0 ∨ g = 1 then g else fsLev cs 0 cs.length
theorem baseOf_range (cs : List Cl) (g : Int) : baseOf cs g = 0 ∨ baseOf cs g = 1 := by
  unfold baseOf
  split
  · assumption
  · exact fsLev_range _ _ _

set_option maxHeartbeats 1000000 in
theorem baseLevel_any (A : Option Addr) (c : Nat) (cs : List Cl) (g : Int) (w : World) (hr : Rd w A (nums .i64 (clsI cs))) (hm : cs.length ≤ 2147483647) :
    Calls Tryz.prog 7 #[.slice A cs.length c, .int .i64 g] w fun e w' => e = .returned (.int .i64 (baseOf cs g)) ∧ Upd [] w w' := by
  by_cases h0 : g = 0
  · have hb : (g == 0) = true := by simpa using h0
    have HE : Hid (g = baseOf cs g) := by show _ = _; rw [baseOf, if_pos (.inl h0)]
    clear h0
    go_enter Tryz.func7, Tryz.ntmps7
    go_wp2
    go_ret
    exact ⟨ret_int HE.out, Upd.refl _ _⟩
  have hb0 : (g == 0) = false := by simpa using h0
  by_cases h1 : g = 1
  · have hb : (g == 1) = true := by simpa using h1
    have HE : Hid (g = baseOf cs g) := by show _ = _; rw [baseOf, if_pos (.inr h1)]
    clear h0 h1
    go_enter Tryz.func7, Tryz.ntmps7
    go_wp2
    go_ret
    exact ⟨ret_int HE.out, Upd.refl _ _⟩
  have hb1 : (g == 1) = false := by simpa using h1
  have HE : Hid (fsLev cs 0 cs.length = baseOf cs g) := by show _ = _; rw [baseOf, if_neg (by omega)]
  clear h0 h1
  go_enter Tryz.func7, Tryz.ntmps7
  go_wp2_with (go_at_call 31; refine (matching_any _ _ _ _ hr hm).mono ?_; rintro e w1 ⟨rfl, hrow, hu⟩)
  go_wp2_with (go_at_call 30; refine (firstStrong_any _ _ _ _ cs 0 cs.length 0 _ (hr.keep hu) (Rd.of_row hrow) (Nat.le_refl _) hm (by omega)).mono ?_; rintro e w2 ⟨rfl, rfl⟩)
  go_ret
  exact ⟨ret_int HE.out, hu⟩
end Go.Proofs.YtjahmnenfknjgaaGreatDoor
namespace Go.Proofs.YtjahmnenfknjgaaGreatDoor
open Go.RowKit

theorem info91 : (Tryz.prog.info? 91).map (fun i => (i.zero, i.size, i.bytes)) = some (some (.agg #[.int .i64 0, .int .i64 0, .bool false]), 3, 24) := by kernel_rfl
def ov1 : Option Cl → Int
  | none => -1
  | some c => c.e1
/-- Entries as cells, the bottom first. -/
def entV (l : List Ent) : List Value := l.flatMap fun e => [.int .i64 e.lv, .int .i64 (ov1 e.ov), .bool e.iso]
theorem entV_length (l : List Ent) : (entV l).length = l.length * 3 := by
  induction l with
  | nil => rfl
  | cons e l ih => simp only [entV, List.flatMap_cons, List.length_append, List.length_cons, List.length_nil] at ih ⊢; omega
theorem entV_append (l m : List Ent) : entV (l ++ m) = entV l ++ entV m := by simp [entV]
theorem entV_snoc (r : List Ent) (e : Ent) : entV (e :: r).reverse = entV r.reverse ++ [.int .i64 e.lv, .int .i64 (ov1 e.ov), .bool e.iso] := by
  rw [List.reverse_cons, entV_append]; simp [entV]
theorem ent_cells {w : World} {g : Nat} {e : Ent} {r : List Ent} (h : Row w g 91 (entV (e :: r).reverse)) :
    w.cell? ⟨g, r.length * 3, none⟩ = some (.int .i64 e.lv) ∧ w.cell? ⟨g, r.length * 3 + 1, none⟩ = some (.int .i64 (ov1 e.ov)) ∧ w.cell? ⟨g, r.length * 3 + 2, none⟩ = some (.bool e.iso) := by
  rw [entV_snoc] at h
  have hl : (entV r.reverse).length = r.length * 3 := by rw [entV_length, List.length_reverse]
  refine ⟨?_, ?_, ?_⟩
  · rw [h.cell (r.length * 3) (by simp [hl])]; simp [List.getElem_append_right, hl]
  · rw [h.cell (r.length * 3 + 1) (by simp [hl])]; simp [List.getElem_append_right, hl]
  · rw [h.cell (r.length * 3 + 2) (by simp [hl])]; simp [List.getElem_append_right, hl]

set_option maxHeartbeats 1000000 in
set_option maxRecDepth 100000 in
theorem top_any (b g cap : Nat) (t : Ent) (r : List Ent) (w : World) (h0 : w.cell? ⟨b, 0, none⟩ = some (.slice (some ⟨g, 0, none⟩) (r.length + 1) cap)) (hrow : Row w g 91 (entV (t :: r).reverse)) (hl : r.length ≤ 126) :
    Calls Tryz.prog 61 #[.pointer (some ⟨b, 0, none⟩)] w fun e w' => e = .returned (.agg #[.int .i64 t.lv, .int .i64 (ov1 t.ov), .bool t.iso]) ∧ Upd [] w w' := by
  obtain ⟨c0, c1, c2⟩ := ent_cells hrow
  have hb : b < w.heap.size := World.block_lt_of_cell? w _ h0
  have hg : g < w.heap.size := hrow.lt
  go_enter Tryz.func61, Tryz.ntmps61
  go_wp2
  go_region
  all_goals (try go_wp2)
  all_goals (refine bodyPost_ret (v := .agg #[.int .i64 t.lv, .int .i64 (ov1 t.ov), .bool t.iso]) (by simp [results, Tryz.results61, go_sem]) rfl ⟨rfl, ?_⟩)
  all_goals (exact ((Upd.refl _ _).alloc _).drew)

theorem field91 (x y : Int) (z : Bool) (w : World) : (Instr.field 91 (.agg #[.int .i64 x, .int .i64 y, .bool z]) 0).run Tryz.prog w = .ok (.int .i64 x) w := by kernel_rfl
theorem field91i (x y : Int) (z : Bool) (w : World) : (Instr.field 91 (.agg #[.int .i64 x, .int .i64 y, .bool z]) 2).run Tryz.prog w = .ok (.bool z) w := by kernel_rfl
set_option maxHeartbeats 1000000 in
set_option maxRecDepth 100000 in
theorem next_any (b g cap : Nat) (t : Ent) (r : List Ent) (odd : Int) (w : World) (h0 : w.cell? ⟨b, 0, none⟩ = some (.slice (some ⟨g, 0, none⟩) (r.length + 1) cap)) (hrow : Row w g 91 (entV (t :: r).reverse)) (hl : r.length ≤ 126)
    (hl0 : 0 ≤ t.lv) (hl1 : t.lv ≤ 125) :
    Calls Tryz.prog 92 #[.pointer (some ⟨b, 0, none⟩), .int .i64 odd] w fun e w' => e = .returned (.int .i64 (nextLv t.lv odd)) ∧ Upd [] w w' := by
  have hf := field91 t.lv (ov1 t.ov) t.iso
  by_cases ho : (t.lv + 1) % 2 = odd
  · have hb : ((t.lv + 1) % 2 != odd) = false := by simp [ho]
    have HE : Hid (t.lv + 1 = nextLv t.lv odd) := by show _ = _; rw [nextLv, if_pos ho]
    clear ho
    go_enter Tryz.func92, Tryz.ntmps92
    go_wp2_with (go_at_call 61; refine (top_any b g cap t r _ h0 hrow hl).mono ?_; rintro e w1 ⟨rfl, hu⟩)
    go_ret
    exact ⟨ret_int HE.out, hu⟩
  · have hb : ((t.lv + 1) % 2 != odd) = true := by simp [ho]
    have HE : Hid (t.lv + 2 = nextLv t.lv odd) := by show _ = _; rw [nextLv, if_neg ho]
    clear ho
    go_enter Tryz.func92, Tryz.ntmps92
    go_wp2_with (go_at_call 61; refine (top_any b g cap t r _ h0 hrow hl).mono ?_; rintro e w1 ⟨rfl, hu⟩)
    go_ret
    exact ⟨ret_int (by rw [← HE.out]; omega), hu⟩

/-- The set's state of X1 to X8 in memory: its block b, its stack at block g. -/
structure ExA (w : World) (B b g cap : Nat) (s : XS) : Prop where
  row : Row w b 94 [.slice (some ⟨g, 0, none⟩) s.st.length cap, .int .i64 s.oi, .int .i64 s.oe, .int .i64 s.vi]
  own : w.ownsRow B 91 3 (.slice (some ⟨g, 0, none⟩) s.st.length cap) s.st.length (entV s.st.reverse)
/-- What a step leaves. -/
def ExB (w w' : World) (B b g : Nat) (s : XS) : Prop := ∃ g' cap', ExA w' B b g' cap' s ∧ Upd [b, g] w w'
theorem ExA.ge {w : World} {B b g cap : Nat} {s : XS} (h : ExA w B b g cap s) : B ≤ g ∧ g < w.heap.size := h.own.lt g rfl
theorem ExA.ne {w : World} {B b g cap : Nat} {s : XS} (h : ExA w B b g cap s) : b ≠ g := h.row.ne_type (Row.of_owns h.own) (by decide)
theorem ExA.upd {S : List Nat} {w w' : World} {B b g cap : Nat} {s : XS} (h : ExA w B b g cap s) (hu : Upd S w w') (hb : b ∉ S) (hg : g ∉ S) : ExA w' B b g cap s :=
  ⟨h.row.upd hu hb, own_upd h.own hu (fun k e => by cases e; exact hg)⟩
theorem ExA.cells {w : World} {B b g cap : Nat} {s : XS} (h : ExA w B b g cap s) :
    w.cell? ⟨b, 0, none⟩ = some (.slice (some ⟨g, 0, none⟩) s.st.length cap) ∧ w.cell? ⟨b, 1, none⟩ = some (.int .i64 s.oi) ∧ w.cell? ⟨b, 2, none⟩ = some (.int .i64 s.oe) ∧ w.cell? ⟨b, 3, none⟩ = some (.int .i64 s.vi) :=
  ⟨h.row.cell 0 (by simp), h.row.cell 1 (by simp), h.row.cell 2 (by simp), h.row.cell 3 (by simp)⟩
theorem three_at (w : World) (n : Nat) (hn : n = w.heap.size) (u1 u2 u3 : Value) (ty : TypeId) : ∀ j v, [u1, u2, u3][j]? = some v → (w.alloc (.cells #[u1, u2, u3] ty)).cell? ((⟨n, 0, none⟩ : Addr).add j) = some v := by
  subst hn
  intro j v hj
  match j, hj with
  | 0, hj => simp at hj; subst hj; simp [Addr.add]
  | 1, hj => simp at hj; subst hj; simp [Addr.add]
  | 2, hj => simp at hj; subst hj; simp [Addr.add]
  | n + 3, hj => simp at hj
theorem three_one (x y : Int) (z : Bool) : ∀ u ∈ [Value.int .i64 x, .int .i64 y, .bool z], u.oneCell' = true := by
  intro u hu
  simp at hu
  rcases hu with rfl | rfl | rfl <;> rfl
/-- Behind an append onto the stack and its store. -/
theorem ExA.pushed {w w2 : World} {B b g cap g' cap' : Nat} {s : XS} {n : Int} {ov : Option Cl} {iso : Bool} {o : Obj} (h : ExA w B b g cap s) (hB : B ≤ w.heap.size)
    (hown : w2.ownsRow B 91 3 (.slice (some ⟨g', 0, none⟩) (s.st.length + 1) cap') (s.st.length + 1) (entV s.st.reverse ++ [.int .i64 n, .int .i64 (ov1 ov), .bool iso])) (hg : (w.alloc o).grownBy w2 (some g)) :
    ExA (w2.setCell ⟨b, 0, none⟩ (.slice (some ⟨g', 0, none⟩) (s.st.length + 1) cap')) B b g' cap' { s with st := ⟨n, ov, iso⟩ :: s.st } ∧ Upd [b, g] w (w2.setCell ⟨b, 0, none⟩ (.slice (some ⟨g', 0, none⟩) (s.st.length + 1) cap')) := by
  have hrow2 : Row w2 b 94 _ := (h.row.alloc o).grown hg (by intro e; exact h.ne (Option.some.inj e))
  have hne2 : b ≠ g' := hrow2.ne_type (Row.of_owns hown) (by decide)
  refine ⟨⟨hrow2.set 0 _ (by simp), ?_⟩, ?_⟩
  · have := ownsRow_setCell_other hown (a := ⟨b, 0, none⟩) (by simp [Value.ownBlock]; omega) (.slice (some ⟨g', 0, none⟩) (s.st.length + 1) cap')
    simpa [entV_append, entV] using this
  · exact ((((Upd.refl [b, g] w).alloc o).grown hg (fun k e => .inl (by cases e; simp)))).setCell (.inl (by simp)) _

set_option maxHeartbeats 2000000 in
set_option maxRecDepth 100000 in
theorem embed_any (B b g cap : Nat) (s : XS) (base odd : Int) (ov : Option Cl) (w : World) (hE : ExA w B b g cap s) (hX : XOk base s) (hb0 : 0 ≤ base) (hB : B ≤ w.heap.size) (ho : odd = 0 ∨ odd = 1) (hoe : s.oe ≤ 2147483647) :
    Calls Tryz.prog 63 #[.pointer (some ⟨b, 0, none⟩), .int .i64 odd, .int .i64 (ov1 ov)] w fun e w' => e = .returned (.tuple #[]) ∧ ExB w w' B b g (s.embed odd ov) := by
  obtain ⟨i0, hi', hz0, hz1, hz2⟩ := info_parts info91
  obtain ⟨t, r, hst, htop, hlv0, hlv1⟩ := hX.top
  have hlr : r.length ≤ 126 := by omega
  have h0 : 0 ≤ t.lv := by omega
  have c0 := hE.cells.1
  have hrow := Row.of_owns hE.own
  rw [hst] at c0 hrow
  have hnx := nextLv_gt t.lv odd ho
  have hform : s.embed odd ov = if nextLv t.lv odd ≤ 125 ∧ s.oi = 0 ∧ s.oe = 0 then { s with st := ⟨nextLv t.lv odd, ov, false⟩ :: s.st } else if s.oi = 0 then { s with oe := s.oe + 1 } else s := by
    unfold XS.embed; rw [htop]
  generalize hn : nextLv t.lv odd = n at *
  have HN := Lib.hid hn
  clear hn
  have hstl : s.st.length ≤ 127 := by rw [hst]; simp; omega
  have hnB : (b : Nat) < w.heap.size := hE.row.lt
  have hgg := hE.ge
  have hne := hE.ne
  by_cases hc : n ≤ 125 ∧ s.oi = 0 ∧ s.oe = 0
  · rw [if_pos hc] at hform
    obtain ⟨h1, h2, h3⟩ := hc
    have hb1 : ((s.oi : Int) == 0) = true := by rw [h2]; rfl
    have hb2 : ((s.oe : Int) == 0) = true := by rw [h3]; rfl
    have HF := Lib.hid hform
    have HS := Lib.hid hst
    clear hform h2 h3 hst
    go_enter Tryz.func63, Tryz.ntmps63
    go_wp2_with (first
      | (go_at_call 92; refine (next_any b g cap t r odd _ c0 hrow hlr h0 hlv1).mono ?_; rintro e w1 ⟨rfl, hu1⟩; rw [HN.out]; have hE1 := hE.upd hu1 (by simp) (by simp); obtain ⟨d0, d1, d2, d3⟩ := hE1.cells; have f0 := hE1.row.free 0; have f1 := hE1.row.free 1; have f2 := hE1.row.free 2; have f3 := hE1.row.free 3; have hw1 : b < w1.heap.size := hE1.row.lt)
      | (at_builtin; go_must (refine wpList_append_own _ rfl (.tmp 31) (.tmp 35) 92 rfl B 91 i0 _ 3 24 Tryz.underlying92 hi' hz0 hz1 hz2 rfl (by decide) _ s.st.length _ rfl (hE1.own.alloc _) ⟨w1.heap.size, 0, none⟩ 1 1 [.int .i64 n, .int .i64 (ov1 ov), .bool false] rfl rfl (three_at _ _ rfl _ _ _ _) (three_one _ _ _) (by unfold maxLen; omega) (by omega) (by have := hu1.size; simp; omega) ?_); intro v' w2 hown hgrow _; obtain ⟨g', cap', rfl, hg'⟩ := owns_slice hown (by omega); have hP := ExA.pushed (n := n) (ov := ov) (iso := false) hE1 (by have := hu1.size; omega) hown hgrow; have e0 : w2.cell? ⟨b, 0, none⟩ = some (.slice (some ⟨g, 0, none⟩) s.st.length cap) := ((hE1.row.alloc _).grown hgrow (by intro e; exact hne (Option.some.inj e))).cell 0 (by simp); have e1 : w2.frozen? ⟨b, 0, none⟩ = false := ((hE1.row.alloc _).grown hgrow (by intro e; exact hne (Option.some.inj e))).free 0))
    go_end0
    refine ⟨rfl, ?_⟩
    rw [HF.out]
    exact ⟨g', cap', hP.1, ((Upd.refl _ _).then hu1).trans hP.2⟩
  · rw [if_neg hc] at hform
    have hb3 : (2147483648 : Int) ≤ 9223372036854775807 := by omega
    by_cases h2 : s.oi = 0
    · rw [if_pos h2] at hform
      have hb1 : ((s.oi : Int) == 0) = true := by rw [h2]; rfl
      have HF := Lib.hid hform
      by_cases h1 : n ≤ 125
      · have h3 : ¬ s.oe = 0 := fun h => hc ⟨h1, h2, h⟩
        have hb2 : ((s.oe : Int) == 0) = false := by simp; omega
        clear hform h2 h3 hst hc
        go_enter Tryz.func63, Tryz.ntmps63
        go_wp2_with (go_at_call 92; refine (next_any b g cap t r odd _ c0 hrow hlr h0 hlv1).mono ?_; rintro e w1 ⟨rfl, hu1⟩; rw [HN.out]; have hE1 := hE.upd hu1 (by simp) (by simp); obtain ⟨d0, d1, d2, d3⟩ := hE1.cells; have f2 := hE1.row.free 2)
        go_end0
        refine ⟨rfl, ?_⟩
        rw [HF.out]
        exact ⟨g, cap, ⟨by simpa using hE1.row.set 2 (.int .i64 (s.oe + 1)) (by simp), ownsRow_setCell_other hE1.own (a := ⟨b, 2, none⟩) (by simp [Value.ownBlock]; omega) _⟩, ((Upd.refl _ _).then hu1).setCell (.inl (by simp)) _⟩
      · clear hform h2 hst hc
        go_enter Tryz.func63, Tryz.ntmps63
        go_wp2_with (go_at_call 92; refine (next_any b g cap t r odd _ c0 hrow hlr h0 hlv1).mono ?_; rintro e w1 ⟨rfl, hu1⟩; rw [HN.out]; have hE1 := hE.upd hu1 (by simp) (by simp); obtain ⟨d0, d1, d2, d3⟩ := hE1.cells; have f2 := hE1.row.free 2)
        go_end0
        refine ⟨rfl, ?_⟩
        rw [HF.out]
        exact ⟨g, cap, ⟨by simpa using hE1.row.set 2 (.int .i64 (s.oe + 1)) (by simp), ownsRow_setCell_other hE1.own (a := ⟨b, 2, none⟩) (by simp [Value.ownBlock]; omega) _⟩, ((Upd.refl _ _).then hu1).setCell (.inl (by simp)) _⟩
    · rw [if_neg h2] at hform
      have hb1 : ((s.oi : Int) == 0) = false := by simp; omega
      have HF := Lib.hid hform
      by_cases h1 : n ≤ 125
      all_goals
        clear hform h2 hst hc
        go_enter Tryz.func63, Tryz.ntmps63
        go_wp2_with (go_at_call 92; refine (next_any b g cap t r odd _ c0 hrow hlr h0 hlv1).mono ?_; rintro e w1 ⟨rfl, hu1⟩; rw [HN.out]; have hE1 := hE.upd hu1 (by simp) (by simp); obtain ⟨d0, d1, d2, d3⟩ := hE1.cells)
        go_end0
        refine ⟨rfl, ?_⟩
        rw [HF.out]
        exact ⟨g, cap, hE1, (Upd.refl _ _).then hu1⟩

set_option maxHeartbeats 2000000 in
set_option maxRecDepth 100000 in
theorem begin_any (B b g cap : Nat) (s : XS) (base odd : Int) (w : World) (hE : ExA w B b g cap s) (hX : XOk base s) (hb0 : 0 ≤ base) (hB : B ≤ w.heap.size) (ho : odd = 0 ∨ odd = 1) (hoi : s.oi ≤ 2147483647) (hvi : s.vi ≤ 2147483647) :
    Calls Tryz.prog 65 #[.pointer (some ⟨b, 0, none⟩), .int .i64 odd] w fun e w' => e = .returned (.tuple #[]) ∧ ExB w w' B b g (s.begin_ odd) := by
  obtain ⟨i0, hi', hz0, hz1, hz2⟩ := info_parts info91
  obtain ⟨t, r, hst, htop, hlv0, hlv1⟩ := hX.top
  have hlr : r.length ≤ 126 := by omega
  have h0 : 0 ≤ t.lv := by omega
  have c0 := hE.cells.1
  have hrow := Row.of_owns hE.own
  rw [hst] at c0 hrow
  have hnx := nextLv_gt t.lv odd ho
  have hform : s.begin_ odd = if nextLv t.lv odd ≤ 125 ∧ s.oi = 0 ∧ s.oe = 0 then { s with st := ⟨nextLv t.lv odd, none, true⟩ :: s.st, vi := s.vi + 1 } else { s with oi := s.oi + 1 } := by
    unfold XS.begin_; rw [htop]
  have hcap := owns_cap hE.own
  generalize hn : nextLv t.lv odd = n at *
  have HN := Lib.hid hn
  clear hn
  have hstl : s.st.length ≤ 127 := by rw [hst]; simp; omega
  have hnB : (b : Nat) < w.heap.size := hE.row.lt
  have hgg := hE.ge
  have hne := hE.ne
  by_cases hc : n ≤ 125 ∧ s.oi = 0 ∧ s.oe = 0
  · rw [if_pos hc] at hform
    obtain ⟨h1, h2, h3⟩ := hc
    have hb1 : ((s.oi : Int) == 0) = true := by rw [h2]; rfl
    have hb2 : ((s.oe : Int) == 0) = true := by rw [h3]; rfl
    have HF := Lib.hid hform
    have HS := Lib.hid hst
    clear hform h2 h3 hst
    go_enter Tryz.func65, Tryz.ntmps65
    go_wp2_with (first
      | (go_at_call 92; refine (next_any b g cap t r odd _ c0 hrow hlr h0 hlv1).mono ?_; rintro e w1 ⟨rfl, hu1⟩; rw [HN.out]; have hE1 := hE.upd hu1 (by simp) (by simp); obtain ⟨d0, d1, d2, d3⟩ := hE1.cells; have f0 := hE1.row.free 0; have f1 := hE1.row.free 1; have f2 := hE1.row.free 2; have f3 := hE1.row.free 3; have hw1 : b < w1.heap.size := hE1.row.lt; have hE2 : ExA (w1.setCell ⟨b, 3, none⟩ (.int .i64 (s.vi + 1))) B b g cap { s with vi := s.vi + 1 } := ⟨by simpa using hE1.row.set 3 (.int .i64 (s.vi + 1)) (by simp), ownsRow_setCell_other hE1.own (a := ⟨b, 3, none⟩) (by simp [Value.ownBlock]; omega) _⟩)
      | (at_builtin; go_must (refine wpList_append_own _ rfl (.tmp 35) (.tmp 38) 92 rfl B 91 i0 _ 3 24 Tryz.underlying92 hi' hz0 hz1 hz2 rfl (by decide) _ s.st.length _ rfl (hE2.own.alloc _) ⟨w1.heap.size, 0, none⟩ 1 1 [.int .i64 n, .int .i64 (-1), .bool true] rfl rfl (three_at _ _ (by simp) _ _ _ _) (three_one _ _ _) (by unfold maxLen; omega) (by omega) (by have := hu1.size; simp; omega) ?_); intro v' w2 hown hgrow _; obtain ⟨g', cap', rfl, hg'⟩ := owns_slice hown (by omega); have hP := ExA.pushed (n := n) (ov := none) (iso := true) hE2 (by have := hu1.size; simp; omega) hown hgrow; have e0 : w2.cell? ⟨b, 0, none⟩ = some (.slice (some ⟨g, 0, none⟩) s.st.length cap) := ((hE2.row.alloc _).grown hgrow (by intro e; exact hne (Option.some.inj e))).cell 0 (by simp); have e1 : w2.frozen? ⟨b, 0, none⟩ = false := ((hE2.row.alloc _).grown hgrow (by intro e; exact hne (Option.some.inj e))).free 0))
    refine bodyPost_ret (results_none rfl _ _ _) rfl ?_
    refine ⟨rfl, ?_⟩
    rw [HF.out]
    exact ⟨g', cap', hP.1, (((Upd.refl _ _).then hu1).setCell (.inl (by simp)) _).trans hP.2⟩
  · rw [if_neg hc] at hform
    have HF := Lib.hid hform
    have tail : ∀ w1, Upd [] w w1 → ExB w (w1.setCell ⟨b, 1, none⟩ (.int .i64 (s.oi + 1))) B b g { s with oi := s.oi + 1 } := fun w1 hu1 => by
      have hE1 := hE.upd hu1 (by simp) (by simp)
      exact ⟨g, cap, ⟨by simpa using hE1.row.set 1 (.int .i64 (s.oi + 1)) (by simp), ownsRow_setCell_other hE1.own (a := ⟨b, 1, none⟩) (by simp [Value.ownBlock]; omega) _⟩, ((Upd.refl _ _).then hu1).setCell (.inl (by simp)) _⟩
    have HT := Lib.hid tail
    clear tail
    by_cases h1 : n ≤ 125
    · by_cases h2 : s.oi = 0
      · have h3 : ¬ s.oe = 0 := fun h => hc ⟨h1, h2, h⟩
        have hb1 : ((s.oi : Int) == 0) = true := by rw [h2]; rfl
        have hb2 : ((s.oe : Int) == 0) = false := by simp; omega
        clear hform h2 h3 hst hc
        go_enter Tryz.func65, Tryz.ntmps65
        go_wp2_with (go_at_call 92; refine (next_any b g cap t r odd _ c0 hrow hlr h0 hlv1).mono ?_; rintro e w1 ⟨rfl, hu1⟩; rw [HN.out]; have hE1 := hE.upd hu1 (by simp) (by simp); obtain ⟨d0, d1, d2, d3⟩ := hE1.cells; have f1 := hE1.row.free 1)
        go_end0
        refine ⟨rfl, ?_⟩
        rw [HF.out]
        exact HT.out _ hu1
      · have hb1 : ((s.oi : Int) == 0) = false := by simp; omega
        clear hform h2 hst hc
        go_enter Tryz.func65, Tryz.ntmps65
        go_wp2_with (go_at_call 92; refine (next_any b g cap t r odd _ c0 hrow hlr h0 hlv1).mono ?_; rintro e w1 ⟨rfl, hu1⟩; rw [HN.out]; have hE1 := hE.upd hu1 (by simp) (by simp); obtain ⟨d0, d1, d2, d3⟩ := hE1.cells; have f1 := hE1.row.free 1)
        go_end0
        refine ⟨rfl, ?_⟩
        rw [HF.out]
        exact HT.out _ hu1
    · clear hform hst hc
      go_enter Tryz.func65, Tryz.ntmps65
      go_wp2_with (go_at_call 92; refine (next_any b g cap t r odd _ c0 hrow hlr h0 hlv1).mono ?_; rintro e w1 ⟨rfl, hu1⟩; rw [HN.out]; have hE1 := hE.upd hu1 (by simp) (by simp); obtain ⟨d0, d1, d2, d3⟩ := hE1.cells; have f1 := hE1.row.free 1)
      go_end0
      refine ⟨rfl, ?_⟩
      rw [HF.out]
      exact HT.out _ hu1

/-- The stack cut by its top, its header stored. -/
theorem ExA.cut {w : World} {B b g cap oi oe vi : Nat} {e : Ent} {r : List Ent} (h : ExA w B b g cap ⟨e :: r, oi, oe, vi⟩) :
    ExA (w.setCell ⟨b, 0, none⟩ (.slice (some ⟨g, 0, none⟩) r.length cap)) B b g cap ⟨r, oi, oe, vi⟩ := by
  have hne := h.ne
  refine ⟨by simpa using h.row.set 0 (.slice (some ⟨g, 0, none⟩) r.length cap) (by simp), ?_⟩
  have h1 := ownsRow_setCell_other h.own (a := ⟨b, 0, none⟩) (by simp [Value.ownBlock]; omega) (.slice (some ⟨g, 0, none⟩) r.length cap)
  simp only [entV_snoc] at h1
  exact ownsRow_pop (by rw [entV_length, List.length_reverse]) h1

set_option maxHeartbeats 2000000 in
set_option maxRecDepth 100000 in
theorem end_any (B b g cap : Nat) (s : XS) (base : Int) (w : World) (hE : ExA w B b g cap s) (hX : XOk base s) (hb0 : 0 ≤ base) (hoi : s.oi ≤ 2147483647) (hvi : s.vi ≤ 2147483647) :
    Calls Tryz.prog 60 #[.pointer (some ⟨b, 0, none⟩)] w fun e w' => e = .returned (.tuple #[]) ∧ ExB w w' B b g s.end_ := by
  obtain ⟨d0, d1, d2, d3⟩ := hE.cells
  have f0 := hE.row.free 0
  have f1 := hE.row.free 1
  have f2 := hE.row.free 2
  have f3 := hE.row.free 3
  have hne := hE.ne
  by_cases h1 : 0 < s.oi
  · have HF : Hid (s.end_ = { s with oi := s.oi - 1 }) := by show _ = _; rw [XS.end_, if_pos h1]
    have HT : Hid (ExA (w.setCell ⟨b, 1, none⟩ (.int .i64 (s.oi - 1))) B b g cap { s with oi := s.oi - 1 }) :=
      ⟨by have := hE.row.set 1 (.int .i64 (s.oi - 1)) (by simp); rw [show ((s.oi : Int) - 1) = ((s.oi - 1 : Nat) : Int) by omega] at *; simpa using this, ownsRow_setCell_other hE.own (a := ⟨b, 1, none⟩) (by simp [Value.ownBlock]; omega) _⟩
    go_enter Tryz.func60, Tryz.ntmps60
    go_wp2
    go_end0
    refine ⟨rfl, ?_⟩
    rw [HF.out]
    exact ⟨g, cap, HT.out, (Upd.refl _ _).setCell (.inl (by simp)) _⟩
  by_cases h2 : 0 < s.vi
  · have HF : Hid (s.end_ = ⟨popIso s.st, s.oi, 0, s.vi - 1⟩) := by show _ = _; rw [XS.end_, if_neg h1, if_pos h2]
    have hE1 : ExA (w.setCell ⟨b, 2, none⟩ (.int .i64 0)) B b g cap ⟨s.st, s.oi, 0, s.vi⟩ :=
      ⟨by simpa using hE.row.set 2 (.int .i64 0) (by simp), ownsRow_setCell_other hE.own (a := ⟨b, 2, none⟩) (by simp [Value.ownBlock]; omega) _⟩
    have hX1 : XOk base ⟨s.st, s.oi, 0, s.vi⟩ := ⟨hX.ne, hX.lv, hX.ov, hX.vi⟩
    go_enter Tryz.func60, Tryz.ntmps60
    go_wp2
    go_loopg [] (s.st.length) (fun k wr => ∃ st : List Ent, ExA wr B b g cap ⟨st, s.oi, 0, s.vi⟩ ∧ Hid (popIso st = popIso s.st) ∧ XOk base ⟨st, s.oi, 0, s.vi⟩ ∧ Hid (st.length ≤ k) ∧ Upd [b, g] w wr)
    case atStart => exact ⟨s.st, hE1, rfl, hX1, Nat.le_refl _, (Upd.refl _ _).setCell (.inl (by simp)) _⟩
    case round =>
      obtain ⟨st, hE, HP, hX, hk, hu⟩ := hrel
      obtain ⟨t, r, hst, htop, hlv0, hlv1⟩ := hX.top
      simp only at hst
      subst hst
      have hrow := Row.of_owns hE.own
      have c0 := hE.cells.1
      have hcap : r.length + 1 ≤ cap := owns_cap hE.own
      have hf := field91i t.lv (ov1 t.ov) t.iso
      have hlr : r.length ≤ 126 := by omega
      have hpp : popIso (t :: r) = if t.iso then r else popIso r := rfl
      cases hi : t.iso with
      | false =>
        rw [hi] at hpp hf
        simp only [Bool.false_eq_true, if_false] at hpp
        have HP2 : Hid (popIso r = popIso s.st) := by show _ = _; rw [← hpp]; exact HP.out
        have hrn : r ≠ [] := by
          rintro rfl
          obtain ⟨l, x, hs, hxi, _⟩ := hX.ne
          have := hX.vi
          simp [isos, hi] at this
          omega
        have hX2 := hX.drop hrn (oi' := s.oi) (oe' := 0)
        rw [hi] at hX2
        simp only [Bool.false_eq_true, if_false] at hX2
        clear hpp hrn
        go_wp2_with (go_at_call 61; refine (top_any b g cap t r _ c0 hrow hlr).mono ?_; rw [hi]; rintro e w1 ⟨rfl, hu1⟩; have hE1 := hE.upd hu1 (by simp) (by simp); have g0 := hE1.cells.1; have e0 := hE1.row.free 0; simp only [List.length_cons] at g0)
        go_region
        all_goals (try go_wp2)
        all_goals
          go_roundg r.length
          case measure => have := hk.out; simp at this; omega
          case rel => exact ⟨r, ⟨hE1.cut.row.drew, hE1.cut.own.drew⟩, HP2, hX2, Nat.le_refl _, ((hu.then hu1).setCell (.inl (by simp)) _).drew⟩
      | true =>
        rw [hi] at hpp hf
        simp only [if_true] at hpp
        have HP2 : Hid (r = popIso s.st) := by show _ = _; rw [← hpp]; exact HP.out
        clear hpp
        go_wp2_with (go_at_call 61; refine (top_any b g cap t r _ c0 hrow hlr).mono ?_; rw [hi]; rintro e w1 ⟨rfl, hu1⟩; have hE1 := hE.upd hu1 (by simp) (by simp); have g0 := hE1.cells.1; have e0 := hE1.row.free 0; have g3 := hE1.cells.2.2.2; have e3 := hE1.row.free 3; simp only [List.length_cons] at g0)
        go_region
        all_goals (try go_wp2)
        all_goals
          go_end0
          refine ⟨rfl, ?_⟩
          rw [HF.out]
          have hC := hE1.cut
          have hv1 : ((s.vi : Int) - 1) = ((s.vi - 1 : Nat) : Int) := by omega
          refine ⟨g, cap, ⟨?_, ?_⟩, (((hu.then hu1).setCell (.inl (by simp)) _).setCell (.inl (by simp)) _).drew⟩
          · refine Row.drew ?_
            have := hC.row.set 3 (.int .i64 (s.vi - 1)) (by simp)
            rw [hv1] at *
            rw [← HP2.out]
            simpa using this
          · rw [← HP2.out]
            exact World.ownsRow.drew (ownsRow_setCell_other hC.own (a := ⟨b, 3, none⟩) (by simp [Value.ownBlock]; omega) _)
  · have HF : Hid (s.end_ = s) := by show _ = _; rw [XS.end_, if_neg h1, if_neg h2]
    go_enter Tryz.func60, Tryz.ntmps60
    go_wp2
    go_end0
    refine ⟨rfl, ?_⟩
    rw [HF.out]
    exact ⟨g, cap, hE, Upd.refl _ _⟩

set_option maxHeartbeats 2000000 in
set_option maxRecDepth 100000 in
theorem pop_any (B b g cap : Nat) (s : XS) (base : Int) (w : World) (hE : ExA w B b g cap s) (hX : XOk base s) (hb0 : 0 ≤ base) (hoe : s.oe ≤ 2147483647) :
    Calls Tryz.prog 64 #[.pointer (some ⟨b, 0, none⟩)] w fun e w' => e = .returned (.tuple #[]) ∧ ExB w w' B b g s.pop := by
  obtain ⟨d0, d1, d2, d3⟩ := hE.cells
  have f0 := hE.row.free 0
  have f1 := hE.row.free 1
  have f2 := hE.row.free 2
  have f3 := hE.row.free 3
  have hne := hE.ne
  by_cases h1 : 0 < s.oi
  · have HF : Hid (s.pop = s) := by show _ = _; rw [XS.pop, if_pos h1]
    go_enter Tryz.func64, Tryz.ntmps64
    go_wp2
    go_end0
    refine ⟨rfl, ?_⟩
    rw [HF.out]
    exact ⟨g, cap, hE, Upd.refl _ _⟩
  by_cases h2 : 0 < s.oe
  · have HF : Hid (s.pop = { s with oe := s.oe - 1 }) := by show _ = _; rw [XS.pop, if_neg h1, if_pos h2]
    have HT : Hid (ExA (w.setCell ⟨b, 2, none⟩ (.int .i64 (s.oe - 1))) B b g cap { s with oe := s.oe - 1 }) :=
      ⟨by have := hE.row.set 2 (.int .i64 (s.oe - 1)) (by simp); rw [show ((s.oe : Int) - 1) = ((s.oe - 1 : Nat) : Int) by omega] at *; simpa using this, ownsRow_setCell_other hE.own (a := ⟨b, 2, none⟩) (by simp [Value.ownBlock]; omega) _⟩
    go_enter Tryz.func64, Tryz.ntmps64
    go_wp2
    go_end0
    refine ⟨rfl, ?_⟩
    rw [HF.out]
    exact ⟨g, cap, HT.out, (Upd.refl _ _).setCell (.inl (by simp)) _⟩
  obtain ⟨t, r, hst, htop, hlv0, hlv1⟩ := hX.top
  obtain ⟨st, oi, oe, vi⟩ := s
  simp only at *
  subst hst
  have hrow := Row.of_owns hE.own
  have hcap : r.length + 1 ≤ cap := owns_cap hE.own
  have hf := field91i t.lv (ov1 t.ov) t.iso
  have hlr : r.length ≤ 126 := by omega
  by_cases hc : t.iso = false ∧ 0 < r.length
  · have HF : Hid (XS.pop ⟨t :: r, oi, oe, vi⟩ = ⟨r, oi, oe, vi⟩) := by
      show _ = _
      rw [XS.pop, if_neg h1, if_neg h2, if_pos (by rw [htop]; exact ⟨hc.1, by simp; omega⟩)]; rfl
    obtain ⟨hi, hr0⟩ := hc
    rw [hi] at hf
    simp only [List.length_cons] at d0
    go_enter Tryz.func64, Tryz.ntmps64
    go_wp2_with (go_at_call 61; refine (top_any b g cap t r _ d0 hrow hlr).mono ?_; rw [hi]; rintro e w1 ⟨rfl, hu1⟩; have hE1 := hE.upd hu1 (by simp) (by simp); have g0 := hE1.cells.1; have e0 := hE1.row.free 0; simp only [List.length_cons] at g0)
    go_region
    all_goals (try go_wp2)
    all_goals
      go_end0
      refine ⟨rfl, ?_⟩
      rw [HF.out]
      exact ⟨g, cap, ⟨hE1.cut.row.drew, hE1.cut.own.drew⟩, (((Upd.refl _ _).then hu1).setCell (.inl (by simp)) _).drew⟩
  · have HF : Hid (XS.pop ⟨t :: r, oi, oe, vi⟩ = ⟨t :: r, oi, oe, vi⟩) := by
      show _ = _
      rw [XS.pop, if_neg h1, if_neg h2, if_neg (by rw [htop]; exact fun h => hc ⟨h.1, by have := h.2; simp at this; omega⟩)]
    simp only [List.length_cons] at d0
    cases hi : t.iso with
    | true =>
      rw [hi] at hf
      clear hc
      go_enter Tryz.func64, Tryz.ntmps64
      go_wp2_with (go_at_call 61; refine (top_any b g cap t r _ d0 hrow hlr).mono ?_; rw [hi]; rintro e w1 ⟨rfl, hu1⟩; have hE1 := hE.upd hu1 (by simp) (by simp); have g0 := hE1.cells.1; have e0 := hE1.row.free 0; simp only [List.length_cons] at g0)
      go_end0
      refine ⟨rfl, ?_⟩
      rw [HF.out]
      exact ⟨g, cap, hE1, (Upd.refl _ _).then hu1⟩
    | false =>
      have hr0 : ¬ 0 < r.length := fun h => hc ⟨hi, h⟩
      have hr1 : r.length + 1 ≤ 1 := by omega
      have hr2 : r.length = 0 := by omega
      rw [hi] at hf
      clear hc hr0
      have HR := Lib.hid hr2
      clear hr2
      go_enter Tryz.func64, Tryz.ntmps64
      go_wp2_with (go_at_call 61; refine (top_any b g cap t r _ d0 hrow hlr).mono ?_; rw [hi]; rintro e w1 ⟨rfl, hu1⟩; have hE1 := hE.upd hu1 (by simp) (by simp); have g0 := hE1.cells.1; have e0 := hE1.row.free 0; simp only [List.length_cons] at g0)
      go_end0
      refine ⟨rfl, ?_⟩
      rw [HF.out]
      exact ⟨g, cap, hE1, (Upd.refl _ _).then hu1⟩
end Go.Proofs.YtjahmnenfknjgaaGreatDoor
