/- Small functions of the set, each by its contract. -/
import Derived.Test.YtjahmnenfknjgaaGreatDoorG3
import Derived.Test.YtjahmnenfknjgaaGreatDoorG1
set_option linter.unusedVariables false
set_option linter.unusedSimpArgs false
namespace Go.Proofs.YtjahmnenfknjgaaGreatDoor
open Go.RowKit

theorem direction_any (l : Int) (w : World) (h0 : 0 ≤ l) (h1 : l ≤ 1000) : Calls Tryz.prog 68 #[.int .i64 l] w fun e w' => e = .returned (.int .i64 (dirOf l).e1) ∧ w = w' := by
  by_cases h : l % 2 = 1
  · have hb : (l % 2 == 1) = true := by simpa using h
    have HE : Hid (1 = (dirOf l).e1) := by show _ = _; rw [dirOf, if_pos h]; rfl
    clear h
    go_enter Tryz.func68, Tryz.ntmps68
    go_wp2
    go_ret
    exact ⟨ret_int HE.out, rfl⟩
  · have hb : (l % 2 == 1) = false := by simpa using h
    have HE : Hid (0 = (dirOf l).e1) := by show _ = _; rw [dirOf, if_neg h]; rfl
    clear h
    go_enter Tryz.func68, Tryz.ntmps68
    go_wp2
    go_ret
    exact ⟨ret_int HE.out, rfl⟩

set_option maxHeartbeats 1000000 in
theorem before_any (A : Option Addr) (c : Nat) (lv : List Int) (p : Nat) (base : Int) (w : World) (hr : Rd w A (nums .i64 lv)) (hp : p ≤ lv.length) (hm : lv.length ≤ 2147483647) :
    Calls Tryz.prog 67 #[.slice A lv.length c, .int .i64 p, .int .i64 (-1), .int .i64 base] w fun e w' => e = .returned (.int .i64 (befLv lv base p)) ∧ w = w' := by
  have HE : Hid (befLv lv base p = befLv lv base p) := rfl
  obtain ⟨r, hr'⟩ : ∃ r, r = befLv lv base p := ⟨_, rfl⟩
  rw [← hr']
  have HR := Lib.hid hr'
  clear hr' HE
  go_enter Tryz.func67, Tryz.ntmps67
  go_wp2
  go_loopg [9] (p + 1) (fun k i wr => ∃ j : Nat, i = .int .i64 ((j : Int) - 1) ∧ j ≤ p ∧ Hid (r = befLv lv base j) ∧ w = wr ∧ Hid (j + 1 ≤ k))
  case atStart => exact ⟨p, by go_num, Nat.le_refl _, HR, rfl, Nat.le_refl _⟩
  case round =>
    obtain ⟨j, rfl, hj, HJ, rfl, hk⟩ := hrel
    match j, hj, HJ, hk with
    | 0, hj, HJ, hk =>
      go_wp2
      go_ret
      exact ⟨ret_int HJ.out.symm, rfl⟩
    | j + 1, hj, HJ, hk =>
      obtain ⟨g, o, rfl, hc⟩ := hr.num j (by omega)
      have e1 : ((j + 1 : Nat) : Int) - 1 = j := by omega
      rw [e1]
      have hjl : j < lv.length := by omega
      clear e1
      by_cases hn : nth lv j = -1
      · have hb : (nth lv j != -1) = false := by simpa using hn
        have HJ2 : Hid (r = befLv lv base j) := by show _ = _; rw [HJ.out]; simp only [befLv]; rw [if_pos hn]
        clear hn
        go_wp2
        go_roundg (j + 1)
        case measure => have := hk.out; omega
        case rel => exact ⟨j, by go_num, by omega, HJ2, rfl, Nat.le_refl _⟩
      · have hb : (nth lv j != -1) = true := by simpa using hn
        have HJ2 : Hid (r = nth lv j) := by show _ = _; rw [HJ.out]; simp only [befLv]; rw [if_neg hn]
        clear hn
        go_wp2
        go_ret
        exact ⟨ret_int HJ2.out.symm, rfl⟩

set_option maxHeartbeats 1000000 in
theorem behind_any (A : Option Addr) (c : Nat) (lv : List Int) (p : Nat) (base : Int) (w : World) (hr : Rd w A (nums .i64 lv)) (hp : p < lv.length) (hm : lv.length ≤ 2147483647) :
    Calls Tryz.prog 67 #[.slice A lv.length c, .int .i64 p, .int .i64 1, .int .i64 base] w fun e w' => e = .returned (.int .i64 (aftLv lv base (p + 1))) ∧ w = w' := by
  obtain ⟨r, hr'⟩ : ∃ r, r = aftLv lv base (p + 1) := ⟨_, rfl⟩
  rw [← hr']
  have HR := Lib.hid hr'
  clear hr'
  go_enter Tryz.func67, Tryz.ntmps67
  go_wp2
  go_loopg [9] (lv.length + 1) (fun k i wr => ∃ j : Nat, i = .int .i64 j ∧ j ≤ lv.length ∧ Hid (r = aftLv lv base j) ∧ w = wr ∧ Hid (lv.length + 1 - j ≤ k))
  case atStart => exact ⟨p + 1, by go_num, by omega, HR, rfl, by show _ ≤ _; omega⟩
  case round =>
    obtain ⟨j, rfl, hj, HJ, rfl, hk⟩ := hrel
    by_cases hlt : j < lv.length
    · obtain ⟨g, o, rfl, hc⟩ := hr.num j hlt
      by_cases hn : nth lv j = -1
      · have hb : (nth lv j != -1) = false := by simpa using hn
        have HJ2 : Hid (r = aftLv lv base (j + 1)) := by show _ = _; rw [HJ.out, aftLv_no hlt hn]
        clear hn
        go_wp2
        go_roundg (lv.length + 1 - (j + 1))
        case measure => have := hk.out; omega
        case rel => exact ⟨j + 1, by go_num, by omega, HJ2, rfl, Nat.le_refl _⟩
      · have hb : (nth lv j != -1) = true := by simpa using hn
        have HJ2 : Hid (r = nth lv j) := by show _ = _; rw [HJ.out, aftLv_yes hlt hn]
        clear hn
        go_wp2
        go_ret
        exact ⟨ret_int HJ2.out.symm, rfl⟩
    · have HJ2 : Hid (r = base) := by show _ = _; rw [HJ.out, aftLv_end (by omega)]
      go_wp2
      go_ret
      exact ⟨ret_int HJ2.out.symm, rfl⟩

set_option maxHeartbeats 1000000 in
set_option maxRecDepth 100000 in
theorem take_any (A1 A2 : Option Addr) (c1 c2 : Nat) (l : List Int) (ps : List Nat) (w : World) (hr : Rd w A1 (nums .i64 l)) (hp : Rd w A2 (nums .i64 (nats ps))) (hin : ∀ j, j < ps.length → nat ps j < l.length) (h0 : 0 < ps.length) (hm : ps.length ≤ 2147483647) (hml : l.length ≤ 2147483647) :
    Calls Tryz.prog 15 #[.slice A1 l.length c1, .slice A2 ps.length c2] w (RetRow w 3 ps.length (nums .i64 (pick l ps))) := by
  obtain ⟨i0, hi', hz0, hz1, hz2⟩ := info_parts info3
  have HIN := Lib.hid hin
  clear hin
  have hown := World.ownsRow_lit (base := w.heap.size) (e := 3) (size := 1) w #[] 0 (Nat.le_refl _) (by decide) rfl
  go_enter Tryz.func15, Tryz.ntmps15
  go_wp2
  go_loopg [5, 11] (ps.length + 1) (fun k s i wr => ∃ j g cap : Nat, i = .int .i64 j ∧ j ≤ ps.length ∧ s = .slice (some ⟨g, 0, none⟩) j cap ∧ wr.ownsRow w.heap.size 3 1 (.slice (some ⟨g, 0, none⟩) j cap) j (nums .i64 (pick l (ps.take j))) ∧ Upd [] w wr ∧ Hid (ps.length + 1 - j ≤ k))
  case atStart => exact ⟨0, w.heap.size, 0, rfl, by omega, rfl, hown, (Upd.refl _ _).alloc _, Nat.le_refl _⟩
  case round =>
    obtain ⟨j, g, cap, rfl, hj, rfl, hown, hu, hk⟩ := hrel
    by_cases hlt : j < ps.length
    · obtain ⟨g2, o2, rfl, hc2⟩ := (hp.keep hu).num j (by rw [nats_length]; exact hlt)
      rw [nth_nats hlt] at hc2
      have hin := HIN.out j hlt
      obtain ⟨g1, o1, rfl, hc1⟩ := (hr.keep hu).num (nat ps j) hin
      have hsz := hu.size
      go_wp2_with (at_builtin; go_must (refine wpList_append_own _ rfl (.tmp 26) (.tmp 31) 22 rfl w.heap.size 3 i0 (.int .i64 0) 1 8 Tryz.underlying22 hi' hz0 hz1 hz2 rfl (by decide) _ j _ rfl (hown.alloc _) ⟨wr.heap.size, 0, none⟩ 1 1 [.int .i64 (nth l (nat ps j))] rfl rfl (one_at _ _ rfl _ _) (one_int _ _) (by unfold maxLen; omega) (by omega) (by simp; omega) ?_); intro v' w2 hown2 hgrow2 _)
      obtain ⟨g', c', rfl, hg'⟩ := owns_slice hown2 (by omega)
      have hu2 := (hu.alloc (.cells #[.int .i64 (nth l (nat ps j))] 3)).grown hgrow2 (fun k e => by have := hown.lt k (by cases e; rfl); exact .inr this.1)
      rw [show nums .i64 (pick l (ps.take j)) ++ [.int .i64 (nth l (nat ps j))] = nums .i64 (pick l (ps.take (j + 1))) by rw [← pick_take_succ hlt, nums_append]; rfl] at hown2
      clear hgrow2
      go_roundg (ps.length + 1 - (j + 1))
      case measure => have := hk.out; omega
      case rel => exact ⟨j + 1, g', c', by go_num, by omega, rfl, hown2, hu2, Nat.le_refl _⟩
    · obtain rfl : j = ps.length := by omega
      rw [List.take_length] at hown
      have hR := Row.of_owns hown
      have hg := (hown.lt g rfl).1
      go_wp2
      go_ret
      exact ⟨g, cap, rfl, hg, hR, hu⟩
end Go.Proofs.YtjahmnenfknjgaaGreatDoor
namespace Go.Proofs.YtjahmnenfknjgaaGreatDoor
open Go.RowKit

/-- A list of classes (the set's numbers) that is turned in place, as far as place j. -/
structure InP (w wr : World) (g : Nat) (l : List Cl) (f : Nat → Cl) (j : Nat) (m : List Cl) : Prop where
  row : Row wr g 3 (nums .i64 (clsI m))
  len : m.length = l.length
  don : ∀ q, q < j → cat m q = f q
  rest : ∀ q, j ≤ q → cat m q = cat l q
  up : Upd [g] w wr
theorem InP.start {w : World} {g : Nat} {l : List Cl} {f : Nat → Cl} (h : Row w g 3 (nums .i64 (clsI l))) : InP w w g l f 0 l :=
  ⟨h, rfl, fun q hq => by omega, fun _ _ => rfl, Upd.refl _ _⟩
theorem InP.keep {w wr : World} {g j : Nat} {l m : List Cl} {f : Nat → Cl} (h : InP w wr g l f j m) (he : f j = cat l j) : InP w wr g l f (j + 1) m :=
  ⟨h.row, h.len, forall_succ h.don (by rw [he]; exact h.rest j (Nat.le_refl _)), fun q hq => h.rest q (by omega), h.up⟩
theorem InP.set {w wr : World} {g j : Nat} {l m : List Cl} {f : Nat → Cl} (h : InP w wr g l f j m) (hj : j < l.length) (x : Cl) (he : f j = x) : InP w (wr.setCell ⟨g, j, none⟩ (.int .i64 x.e1)) g l f (j + 1) (m.set j x) :=
  ⟨h.row.setClsI j x (by rw [h.len]; exact hj), by simpa using h.len, forall_succ (fun q hq => by rw [cat_set_ne (by omega)]; exact h.don q hq) (by rw [cat_set_self (by rw [h.len]; exact hj), he]),
    fun q hq => by rw [cat_set_ne (by omega)]; exact h.rest q (by omega), h.up.setCell (.inl (by simp)) _⟩
theorem InP.fin {w wr : World} {g : Nat} {l m : List Cl} {f : Nat → Cl} (h : InP w wr g l f l.length m) : m = lst l.length f := eq_lst h.len h.don
theorem InP.cell {w wr : World} {g j : Nat} {l m : List Cl} {f : Nat → Cl} (h : InP w wr g l f j m) (q : Nat) (hq : q < l.length) : wr.cell? ⟨g, q, none⟩ = some (.int .i64 (cat m q).e1) := by
  rw [h.row.num q (by rw [clsI_length, h.len]; exact hq), nth_clsI (by rw [h.len]; exact hq)]
theorem InP.upd {w wr w2 : World} {g j : Nat} {l m : List Cl} {f : Nat → Cl} (h : InP w wr g l f j m) (hu : Upd [] wr w2) : InP w w2 g l f j m :=
  ⟨h.row.upd hu (by simp), h.len, h.don, h.rest, h.up.then hu⟩

theorem InP.drew {w wr : World} {g j : Nat} {l m : List Cl} {f : Nat → Cl} (h : InP w wr g l f j m) : InP w wr.drew g l f j m := ⟨h.row, h.len, h.don, h.rest, h.up.drew⟩

/-- What a rule that works in place leaves. -/
def Left (w : World) (g : Nat) (l : List Cl) (e : Ending) (w' : World) : Prop := e = .returned (.tuple #[]) ∧ Row w' g 3 (nums .i64 (clsI l)) ∧ Upd [g] w w'

set_option maxHeartbeats 1000000 in
theorem strongBefore_any (A : Option Addr) (c : Nat) (l : List Cl) (p : Nat) (st : Cl) (w : World) (hr : Rd w A (nums .i64 (clsI l))) (hp : p ≤ l.length) (hm : l.length ≤ 2147483647) :
    Calls Tryz.prog 94 #[.slice A l.length c, .int .i64 p, .int .i64 st.e1] w fun e w' => e = .returned (.int .i64 (sb l st p).e1) ∧ w = w' := by
  obtain ⟨r, hr'⟩ : ∃ r, r = sb l st p := ⟨_, rfl⟩
  rw [← hr']
  have HR := Lib.hid hr'
  clear hr'
  go_enter Tryz.func94, Tryz.ntmps94
  go_wp2
  go_loopg [7] (p + 1) (fun k i wr => ∃ j : Nat, i = .int .i64 ((j : Int) - 1) ∧ j ≤ p ∧ Hid (r = sb l st j) ∧ w = wr ∧ Hid (j + 1 ≤ k))
  case atStart => exact ⟨p, by go_num, Nat.le_refl _, HR, rfl, Nat.le_refl _⟩
  case round =>
    obtain ⟨j, rfl, hj, HJ, rfl, hk⟩ := hrel
    match j, hj, HJ, hk with
    | 0, hj, HJ, hk =>
      go_wp2
      go_ret
      exact ⟨ret_int (by rw [HJ.out]; rfl), rfl⟩
    | j + 1, hj, HJ, hk =>
      obtain ⟨g, o, rfl, hc⟩ := hr.num j (by rw [clsI_length]; omega)
      rw [nth_clsI (by omega)] at hc
      rw [show ((j + 1 : Nat) : Int) - 1 = j by omega]
      have hjl : j < l.length := by omega
      have b0 : ((cat l j).e1 == 0) = decide (cat l j = .L) := Cl.e1_beq (cat l j) .L
      have b1 : ((cat l j).e1 == 1) = decide (cat l j = .R) := Cl.e1_beq (cat l j) .R
      have b2 : ((cat l j).e1 == 13) = decide (cat l j = .AL) := Cl.e1_beq (cat l j) .AL
      by_cases hs : cat l j = .L ∨ cat l j = .R ∨ cat l j = .AL
      · have HJ2 : Hid (r = cat l j) := by show _ = _; rw [HJ.out]; simp only [sb]; rw [if_pos hs]
        rcases hs with h | h | h
        all_goals
          rw [h] at b0 b1 b2
          simp only [h] at hc
          have HC := Lib.hid h
          clear h
          go_wp2
          go_ret
          exact ⟨ret_int (by rw [HJ2.out, HC.out]), rfl⟩
      · have HJ2 : Hid (r = sb l st j) := by show _ = _; rw [HJ.out]; simp only [sb]; rw [if_neg hs]
        rw [decide_eq_false (fun h => hs (.inl h))] at b0
        rw [decide_eq_false (fun h => hs (.inr (.inl h)))] at b1
        rw [decide_eq_false (fun h => hs (.inr (.inr h)))] at b2
        clear hs
        go_wp2
        go_roundg (j + 1)
        case measure => have := hk.out; omega
        case rel => exact ⟨j, by go_num, by omega, HJ2, rfl, Nat.le_refl _⟩

theorem bne_of {x y : Int} {b : Bool} (h : (x == y) = b) : (x != y) = !b := by rw [bne, h]

set_option maxHeartbeats 2000000 in
set_option maxRecDepth 100000 in
theorem marks_any (g c : Nat) (l : List Cl) (st : Cl) (w : World) (hr : Row w g 3 (nums .i64 (clsI l))) (hm : l.length ≤ 2147483647) :
    Calls Tryz.prog 69 #[.slice (some ⟨g, 0, none⟩) l.length c, .int .i64 st.e1] w (Left w g (marksS l st)) := by
  go_enter Tryz.func69, Tryz.ntmps69
  go_wp2
  go_loopg [8] (l.length + 1) (fun k i wr => ∃ (j : Nat) (m : List Cl), i = .int .i64 j ∧ j ≤ l.length ∧ InP w wr g l (mkS l st) j m ∧ Hid (l.length + 1 - j ≤ k))
  case atStart => exact ⟨0, l, rfl, by omega, InP.start hr, Nat.le_refl _⟩
  case round =>
    obtain ⟨j, m, rfl, hj, hI, hk⟩ := hrel
    by_cases hlt : j < l.length
    · have hc := hI.cell j hlt
      rw [hI.rest j (Nat.le_refl _)] at hc
      have hf := hI.row.free j
      have b0 : ((cat l j).e1 == 12) = decide (cat l j = .NSM) := Cl.e1_beq (cat l j) .NSM
      by_cases hn : cat l j = .NSM
      · rw [decide_eq_true hn] at b0
        have b1 := bne_of b0
        simp only [Bool.not_true] at b1
        match j, hlt, hj, hI, hk, hc, hf, hn, b0, b1 with
        | 0, hlt, hj, hI, hk, hc, hf, hn, b0, b1 =>
          have hI2 := hI.set hlt st (by simp only [mkS]; rw [if_pos hn])
          clear hn
          go_wp2
          go_roundg (l.length + 1 - 1)
          case measure => have := hk.out; omega
          case rel => exact ⟨1, _, by go_num, by omega, hI2, Nat.le_refl _⟩
        | j + 1, hlt, hj, hI, hk, hc, hf, hn, b0, b1 =>
          have hp := hI.cell j (by omega)
          rw [hI.don j (by omega)] at hp
          have hmk : mkS l st (j + 1) = if (mkS l st j).isInit = true ∨ mkS l st j = .PDI then .ON else mkS l st j := by
            simp only [mkS]; rw [if_pos hn]
          have hz : (((j + 1 : Nat) : Int) == 0) = false := by simp; omega
          have e1 : ((j + 1 : Nat) : Int) - 1 = j := by omega
          have b2 : ((mkS l st j).e1 == 22) = decide (mkS l st j = .PDI) := Cl.e1_beq (mkS l st j) .PDI
          have hON : (10 : Int) = Cl.e1 .ON := rfl
          generalize mkS l st j = p at *
          by_cases hi : p.isInit = true
          · rw [if_pos (.inl hi)] at hmk
            have hI2 := hI.set hlt .ON hmk
            clear hn hmk b2 hON
            go_wp2_with (go_at_call 59; refine (isInit_any _ _).mono ?_; rintro e w' ⟨rfl, rfl⟩)
            go_roundg (l.length + 1 - (j + 2))
            case measure => have := hk.out; omega
            case rel => exact ⟨j + 2, _, by go_num, by omega, hI2, Nat.le_refl _⟩
          have hi0 : p.isInit = false := by simpa using hi
          by_cases hd : p = .PDI
          · rw [if_pos (.inr hd)] at hmk
            rw [decide_eq_true hd] at b2
            have hI2 := hI.set hlt .ON hmk
            clear hn hmk hON hd hi
            go_wp2_with (go_at_call 59; refine (isInit_any _ _).mono ?_; rintro e w' ⟨rfl, rfl⟩)
            go_roundg (l.length + 1 - (j + 2))
            case measure => have := hk.out; omega
            case rel => exact ⟨j + 2, _, by go_num, by omega, hI2, Nat.le_refl _⟩
          · rw [if_neg (by simp [hi0, hd])] at hmk
            rw [decide_eq_false hd] at b2
            have hI2 := hI.set hlt p hmk
            clear hn hmk hON hd hi
            go_wp2_with (go_at_call 59; refine (isInit_any _ _).mono ?_; rintro e w' ⟨rfl, rfl⟩)
            go_roundg (l.length + 1 - (j + 2))
            case measure => have := hk.out; omega
            case rel => exact ⟨j + 2, _, by go_num, by omega, hI2, Nat.le_refl _⟩
      · rw [decide_eq_false hn] at b0
        have b1 := bne_of b0
        simp only [Bool.not_false] at b1
        have hI2 := hI.keep (by cases j with | zero => simp only [mkS]; rw [if_neg hn] | succ j => simp only [mkS]; rw [if_neg hn])
        clear hn
        go_wp2
        go_roundg (l.length + 1 - (j + 1))
        case measure => have := hk.out; omega
        case rel => exact ⟨j + 1, m, by go_num, by omega, hI2, Nat.le_refl _⟩
    · obtain rfl : j = l.length := by omega
      have HE := Lib.hid hI.fin
      go_wp2
      go_end0
      refine ⟨rfl, ?_, hI.up⟩
      rw [marksS, ← HE.out]
      exact hI.row

set_option maxHeartbeats 2000000 in
set_option maxRecDepth 100000 in
theorem arabic_any (g c : Nat) (l : List Cl) (st : Cl) (w : World) (hr : Row w g 3 (nums .i64 (clsI l))) (hm : l.length ≤ 2147483647) :
    Calls Tryz.prog 70 #[.slice (some ⟨g, 0, none⟩) l.length c, .int .i64 st.e1] w (Left w g (w3L (w2L l st))) := by
  go_enter Tryz.func70, Tryz.ntmps70
  go_wp2
  go_loopg [10] (l.length + 1) (fun k i wr => ∃ (j : Nat) (m : List Cl), i = .int .i64 j ∧ j ≤ l.length ∧ InP w wr g l (w2 l st) j m ∧ Hid (l.length + 1 - j ≤ k))
  case atStart => exact ⟨0, l, rfl, by omega, InP.start hr, Nat.le_refl _⟩
  case round =>
    obtain ⟨j, m, rfl, hj, hI, hk⟩ := hrel
    by_cases hlt : j < l.length
    · have hc := hI.cell j hlt
      rw [hI.rest j (Nat.le_refl _)] at hc
      have hf := hI.row.free j
      have b0 : ((cat l j).e1 == 2) = decide (cat l j = .EN) := Cl.e1_beq (cat l j) .EN
      by_cases hn : cat l j = .EN
      · rw [decide_eq_true hn] at b0
        have hsb := sb_w2 (l := l) (m := m) (st := st) j hI.don
        have hw : w2 l st j = if sb l st j = .AL then .AN else cat l j := by
          unfold w2
          by_cases e : sb l st j = .AL
          · rw [if_pos ⟨hn, e⟩, if_pos e]
          · rw [if_neg (fun h => e h.2), if_neg e]
        have b1 : ((sb l st j).e1 == 13) = decide (sb l st j = .AL) := Cl.e1_beq (sb l st j) .AL
        have hlen := hI.len
        have hrd := Rd.of_row hI.row
        have hcall := fun w' (h : Rd w' (some ⟨g, 0, none⟩) (nums .i64 (clsI m))) => strongBefore_any (some ⟨g, 0, none⟩) c m j st w' h (by omega) (by omega)
        rw [hsb, hlen] at hcall
        have HCall := Lib.hid hcall
        clear hcall
        generalize sb l st j = p at *
        by_cases hp : p = .AL
        · rw [decide_eq_true hp] at b1
          rw [if_pos hp] at hw
          have hI2 := hI.set hlt .AN hw
          clear hn hp hw hsb hlen
          go_wp2_with (go_at_call 94; refine (HCall.out _ hrd).mono ?_; rintro e w' ⟨rfl, rfl⟩)
          go_roundg (l.length + 1 - (j + 1))
          case measure => have := hk.out; omega
          case rel => exact ⟨j + 1, _, by go_num, by omega, hI2, Nat.le_refl _⟩
        · rw [decide_eq_false hp] at b1
          rw [if_neg hp] at hw
          have hI2 := hI.keep hw
          clear hn hp hw hsb hlen
          go_wp2_with (go_at_call 94; refine (HCall.out _ hrd).mono ?_; rintro e w' ⟨rfl, rfl⟩)
          go_roundg (l.length + 1 - (j + 1))
          case measure => have := hk.out; omega
          case rel => exact ⟨j + 1, _, by go_num, by omega, hI2, Nat.le_refl _⟩
      · rw [decide_eq_false hn] at b0
        have hI2 := hI.keep (by unfold w2; rw [if_neg (fun h => hn h.1)])
        clear hn
        go_wp2
        go_roundg (l.length + 1 - (j + 1))
        case measure => have := hk.out; omega
        case rel => exact ⟨j + 1, m, by go_num, by omega, hI2, Nat.le_refl _⟩
    · obtain rfl : j = l.length := by omega
      have hE := hI.fin
      have hrow := hI.row
      rw [hE] at hrow
      have hu := hI.up
      have hl2 := w2L_length l st
      have hrow2 : Row wr g 3 (nums .i64 (clsI (w2L l st))) := hrow
      clear hE hI hrow
      generalize w2L l st = l2 at *
      have hll : l2.length ≤ 2147483647 := by omega
      rw [← hl2] at *
      clear hl2
      go_wp2
      go_loopg [30] (l2.length + 1) (fun k i wr2 => ∃ (j : Nat) (m : List Cl), i = .int .i64 j ∧ j ≤ l2.length ∧ InP wr wr2 g l2 (w3 l2) j m ∧ Hid (l2.length + 1 - j ≤ k))
      case atStart => exact ⟨0, l2, rfl, by omega, InP.start hrow2, Nat.le_refl _⟩
      case round =>
        obtain ⟨j, m, rfl, hj, hI, hk⟩ := hrel
        by_cases hlt : j < l2.length
        · have hc := hI.cell j hlt
          rw [hI.rest j (Nat.le_refl _)] at hc
          have hf := hI.row.free j
          have b0 : ((cat l2 j).e1 == 13) = decide (cat l2 j = .AL) := Cl.e1_beq (cat l2 j) .AL
          by_cases hn : cat l2 j = .AL
          · rw [decide_eq_true hn] at b0
            have hI2 := hI.set hlt .R (by unfold w3; rw [if_pos hn])
            clear hn
            go_wp2
            go_roundg (l2.length + 1 - (j + 1))
            case measure => have := hk.out; omega
            case rel => exact ⟨j + 1, _, by go_num, by omega, hI2, Nat.le_refl _⟩
          · rw [decide_eq_false hn] at b0
            have hI2 := hI.keep (by unfold w3; rw [if_neg hn])
            clear hn
            go_wp2
            go_roundg (l2.length + 1 - (j + 1))
            case measure => have := hk.out; omega
            case rel => exact ⟨j + 1, _, by go_num, by omega, hI2, Nat.le_refl _⟩
        · obtain rfl : j = l2.length := by omega
          have HE := Lib.hid hI.fin
          go_wp2
          go_end0
          refine ⟨rfl, ?_, hu.trans hI.up⟩
          rw [w3L, ← HE.out]
          exact hI.row
end Go.Proofs.YtjahmnenfknjgaaGreatDoor
namespace Go.Proofs.YtjahmnenfknjgaaGreatDoor
open Go.RowKit

set_option maxHeartbeats 2000000 in
set_option maxRecDepth 100000 in
theorem separators_any (g c : Nat) (l : List Cl) (w : World) (hr : Row w g 3 (nums .i64 (clsI l))) (h0 : 0 < l.length) (hm : l.length ≤ 2147483647) :
    Calls Tryz.prog 71 #[.slice (some ⟨g, 0, none⟩) l.length c] w (Left w g (w4L l)) := by
  go_enter Tryz.func71, Tryz.ntmps71
  go_wp2
  go_loopg [2] (l.length + 1) (fun k i wr => ∃ (q : Nat) (m : List Cl), i = .int .i64 ((q : Int) + 1) ∧ q + 1 ≤ l.length ∧ InP w wr g l (w4 l) (q + 1) m ∧ Hid (l.length + 1 - q ≤ k))
  case atStart => exact ⟨0, l, by go_num, by omega, (InP.start hr).keep rfl, by show _ ≤ _; omega⟩
  case round =>
    obtain ⟨q, m, rfl, hj, hI, hk⟩ := hrel
    by_cases hlt : q + 2 < l.length
    · have hc := hI.cell (q + 1) (by omega)
      rw [hI.rest (q + 1) (Nat.le_refl _)] at hc
      have hp := hI.cell q (by omega)
      rw [hI.don q (by omega)] at hp
      have hn := hI.cell (q + 2) hlt
      rw [hI.rest (q + 2) (by omega)] at hn
      have hf := hI.row.free (q + 1)
      have hw : w4 l (q + 1) = if w4 l q = cat l (q + 2) ∧ ((cat l (q + 1) = .ES ∧ w4 l q = .EN) ∨ (cat l (q + 1) = .CS ∧ (w4 l q = .EN ∨ w4 l q = .AN))) then w4 l q else cat l (q + 1) := by
        simp only [w4]
        by_cases e : w4 l q = cat l (q + 2) ∧ ((cat l (q + 1) = .ES ∧ w4 l q = .EN) ∨ (cat l (q + 1) = .CS ∧ (w4 l q = .EN ∨ w4 l q = .AN)))
        · rw [if_pos ⟨hlt, e⟩, if_pos e]
        · rw [if_neg (fun h => e h.2), if_neg e]
      have hI' := hI
      have keepI := fun (he : w4 l (q + 1) = cat l (q + 1)) => hI.keep he
      have setI := fun (x : Cl) (he : w4 l (q + 1) = x) => hI.set (by omega) x he
      have KI := Lib.hid keepI
      have SI := Lib.hid setI
      clear keepI setI
      generalize w4 l q = p at *
      generalize cat l (q + 2) = b at *
      have hx : cat l (q + 1) = cat l (q + 1) := rfl
      generalize hxx : cat l (q + 1) = x at *
      clear hx
      have b0 := Cl.e1_beq p b
      have b1 : (x.e1 == 3) = decide (x = .ES) := Cl.e1_beq x .ES
      have b2 : (x.e1 == 6) = decide (x = .CS) := Cl.e1_beq x .CS
      have b3 : (p.e1 == 2) = decide (p = .EN) := Cl.e1_beq p .EN
      have b4 : (p.e1 == 5) = decide (p = .AN) := Cl.e1_beq p .AN
      by_cases hpb : p = b
      · subst hpb
        rw [decide_eq_true rfl] at b0
        have b5 := bne_of b0
        simp only [Bool.not_true] at b5
        simp only [true_and] at hw
        by_cases h1 : x = .ES
        · subst h1
          simp only [Cl.e1] at hc b1 b2
          by_cases h2 : p = .EN
          · subst h2
            simp only [Cl.e1] at hp hn b0 b3 b4 b5
            have hI2 := SI.out .EN (by rw [hw]; simp)
            clear hw
            go_wp2
            go_region
            all_goals (try go_wp2)
            all_goals
              go_roundg (l.length + 1 - (q + 1))
              case measure => have := hk.out; omega
              case rel => exact ⟨q + 1, _, by go_num, by omega, hI2.drew, Nat.le_refl _⟩
          · rw [decide_eq_false h2] at b3
            have hI2 := KI.out (by rw [hw, if_neg (by simp [h2])])
            clear hw h2
            go_wp2
            go_region
            all_goals (try go_wp2)
            all_goals
              go_roundg (l.length + 1 - (q + 1))
              case measure => have := hk.out; omega
              case rel => exact ⟨q + 1, _, by go_num, by omega, hI2.drew, Nat.le_refl _⟩
        rw [decide_eq_false h1] at b1
        by_cases h3 : x = .CS
        · subst h3
          simp only [Cl.e1] at hc b1 b2
          by_cases h2 : p = .EN
          · subst h2
            simp only [Cl.e1] at hp hn b0 b3 b4 b5
            have hI2 := SI.out .EN (by rw [hw]; simp)
            clear hw
            go_wp2
            go_region
            all_goals (try go_wp2)
            all_goals
              go_roundg (l.length + 1 - (q + 1))
              case measure => have := hk.out; omega
              case rel => exact ⟨q + 1, _, by go_num, by omega, hI2.drew, Nat.le_refl _⟩
          rw [decide_eq_false h2] at b3
          by_cases h4 : p = .AN
          · subst h4
            simp only [Cl.e1] at hp hn b0 b3 b4 b5
            have hI2 := SI.out .AN (by rw [hw]; simp)
            clear hw
            go_wp2
            go_region
            all_goals (try go_wp2)
            all_goals
              go_roundg (l.length + 1 - (q + 1))
              case measure => have := hk.out; omega
              case rel => exact ⟨q + 1, _, by go_num, by omega, hI2.drew, Nat.le_refl _⟩
          · rw [decide_eq_false h4] at b4
            have hI2 := KI.out (by rw [hw, if_neg (by simp [h2, h4])])
            clear hw h2 h4
            go_wp2
            go_region
            all_goals (try go_wp2)
            all_goals
              go_roundg (l.length + 1 - (q + 1))
              case measure => have := hk.out; omega
              case rel => exact ⟨q + 1, _, by go_num, by omega, hI2.drew, Nat.le_refl _⟩
        · rw [decide_eq_false h3] at b2
          have hI2 := KI.out (by rw [hw, if_neg (by simp [h1, h3])])
          clear hw h1 h3
          go_wp2
          go_region
          all_goals (try go_wp2)
          all_goals
            go_roundg (l.length + 1 - (q + 1))
            case measure => have := hk.out; omega
            case rel => exact ⟨q + 1, _, by go_num, by omega, hI2.drew, Nat.le_refl _⟩
      · rw [decide_eq_false hpb] at b0
        have b5 := bne_of b0
        simp only [Bool.not_false] at b5
        have hI2 := KI.out (by rw [hw, if_neg (fun h => hpb h.1)])
        clear hpb hw
        go_wp2
        go_region
        all_goals (try go_wp2)
        all_goals
          go_roundg (l.length + 1 - (q + 1))
          case measure => have := hk.out; omega
          case rel => exact ⟨q + 1, _, by go_num, by omega, hI2.drew, Nat.le_refl _⟩
    · have hE : m = lst l.length (w4 l) := by
        refine eq_lst hI.len fun p hp => ?_
        by_cases e : p < q + 1
        · exact hI.don p e
        · obtain rfl : p = q + 1 := by omega
          rw [hI.rest _ (Nat.le_refl _)]
          simp only [w4]
          rw [if_neg (by omega)]
      have HE := Lib.hid hE
      clear hE
      go_wp2
      go_end0
      refine ⟨rfl, ?_, hI.up⟩
      rw [w4L, ← HE.out]
      exact hI.row

theorem pe_run {l : List Cl} {j : Nat} : ∀ q, j ≤ q → (∀ p, j ≤ p → p < q → cat l p = .ET) → pe l q = pe l j
  | 0, h, _ => by obtain rfl : j = 0 := by omega
                  rfl
  | q + 1, h, hp => by
    by_cases e : j = q + 1
    · subst e; rfl
    · rw [pe, if_pos (hp q (by omega) (by omega))]
      exact pe_run q (by omega) fun p h1 h2 => hp p h1 (by omega)
theorem ne_run {l : List Cl} {k : Nat} (hk : k ≤ l.length) (d : Nat) : ∀ q, q + d = k → (∀ p, q ≤ p → p < k → cat l p = .ET) → ne l q = ne l k := by
  induction d with
  | zero => intro q h _; rw [show q = k by omega]
  | succ d ih =>
    intro q h hp
    rw [ne_et (by omega) (hp q (Nat.le_refl _) (by omega))]
    exact ih (q + 1) (by omega) fun p h1 h2 => hp p (by omega) h2
/-- What the loop over the places holds: where place j begins, no terminator stands ahead of it. -/
def TermL (w : World) (g : Nat) (l : List Cl) (wr : World) (j : Nat) : Prop := ∃ m, InP w wr g l (w5 l) (min j l.length) m ∧ (j = 0 ∨ l.length < j ∨ cat l (j - 1) ≠ .ET)

set_option maxHeartbeats 8000000 in
set_option maxRecDepth 100000 in
theorem terminators_any (g c : Nat) (l : List Cl) (w : World) (hr : Row w g 3 (nums .i64 (clsI l))) (hm : l.length ≤ 2147483647) :
    Calls Tryz.prog 72 #[.slice (some ⟨g, 0, none⟩) l.length c] w (Left w g (w5L l)) := by
  go_enter Tryz.func72, Tryz.ntmps72
  go_wp2
  go_loopg [2] (l.length + 2) (fun k i wr => ∃ j : Nat, i = .int .i64 j ∧ j ≤ l.length + 1 ∧ TermL w g l wr j ∧ Hid (l.length + 2 - j ≤ k))
  case atStart => exact ⟨0, rfl, by omega, ⟨l, by rw [Nat.min_eq_left (Nat.zero_le _)]; exact InP.start hr, .inl rfl⟩, Nat.le_refl _⟩
  case round =>
    obtain ⟨j, rfl, hj, hT, hk⟩ := hrel
    by_cases hlt : j < l.length
    · obtain ⟨m, hI, hpre⟩ := hT
      rw [Nat.min_eq_left (by omega)] at hI
      have hpre : j = 0 ∨ cat l (j - 1) ≠ .ET := by rcases hpre with h | h | h; exact .inl h; omega; exact .inr h
      have HPRE := Lib.hid hpre
      clear hpre
      go_wp2
      go_loopg [3] (l.length - j + 1) (fun k i wr2 => ∃ k2 : Nat, i = .int .i64 k2 ∧ j ≤ k2 ∧ k2 ≤ l.length ∧ Hid (∀ p, j ≤ p → p < k2 → cat l p = .ET) ∧ wr = wr2 ∧ Hid (l.length - k2 + 1 ≤ k))
      case atStart => exact ⟨j, rfl, Nat.le_refl _, by omega, (fun p h1 h2 => by omega), rfl, Nat.le_refl _⟩
      case round =>
        obtain ⟨k2, rfl, hjk, hkl, HR, rfl, hk3⟩ := hrel
        have NEXT : Hid (∀ (wr2 : World) (m2 : List Cl), InP w wr2 g l (w5 l) k2 m2 → (k2 < l.length → cat l k2 ≠ .ET) → ∃ j' : Nat, Value.int .i64 ((k2 : Int) + 1) = .int .i64 j' ∧ j' ≤ l.length + 1 ∧ TermL w g l wr2 j' ∧ Hid (l.length + 2 - j' ≤ l.length + 2 - (k2 + 1))) := by
          intro wr2 m2 h hne
          refine ⟨k2 + 1, by go_num, by omega, ⟨m2, ?_, ?_⟩, Nat.le_refl _⟩
          · by_cases e : k2 < l.length
            · rw [Nat.min_eq_left (by omega)]
              exact h.keep (by unfold w5; rw [if_neg (fun x => hne e x.1)])
            · rw [Nat.min_eq_right (by omega)]
              rwa [show k2 = l.length by omega] at h
          · by_cases e : k2 < l.length
            · exact .inr (.inr (by simpa using hne e))
            · exact .inr (.inl (by omega))
        by_cases hk2l : k2 < l.length
        · have hc := hI.cell k2 hk2l
          rw [hI.rest k2 hjk] at hc
          have b0 : ((cat l k2).e1 == 4) = decide (cat l k2 = .ET) := Cl.e1_beq (cat l k2) .ET
          by_cases het : cat l k2 = .ET
          · rw [decide_eq_true het] at b0
            have HR2 : Hid (∀ p, j ≤ p → p < k2 + 1 → cat l p = .ET) := fun p h1 h2 => by
              by_cases e : p = k2
              · subst e; exact het
              · exact HR.out p h1 (by omega)
            clear het
            go_wp2
            go_roundg (l.length - (k2 + 1) + 1)
            case measure => have := hk3.out; omega
            case rel => exact ⟨k2 + 1, by go_num, by omega, by omega, HR2, rfl, Nat.le_refl _⟩
          rw [decide_eq_false het] at b0
          by_cases hkj : k2 = j
          · subst hkj
            have hbj : ((k2 : Int) == (k2 : Int)) = true := by simp
            have hres := NEXT.out wr m hI (fun _ => het)
            have HRES := Lib.hid hres
            clear hres het NEXT
            go_wp2
            go_roundg (l.length + 2 - (k2 + 1))
            case measure => have := hk.out; omega
            case rel => exact HRES.out
          have hbj : ((k2 : Int) == (j : Int)) = false := by simp; omega
          have HN : Hid (∀ (wr2 : World) (m2 : List Cl), InP w wr2 g l (w5 l) k2 m2 → ∃ j' : Nat, Value.int .i64 ((k2 : Int) + 1) = .int .i64 j' ∧ j' ≤ l.length + 1 ∧ TermL w g l wr2 j' ∧ Hid (l.length + 2 - j' ≤ l.length + 2 - (k2 + 1))) := fun wr2 m2 h => NEXT.out wr2 m2 h (fun _ => het)
          have hne := ne_not hk2l het
          have HEND : Hid (ne l k2 = decide (cat l k2 = .EN)) := hne
          have b9 : ((cat l k2).e1 == 2) = decide (cat l k2 = .EN) := Cl.e1_beq (cat l k2) .EN
          clear het hne NEXT
          by_cases hj0 : 0 < j
          · obtain ⟨jp, rfl⟩ : ∃ jp, j = jp + 1 := ⟨j - 1, by omega⟩
            have hcp := hI.cell jp (by omega)
            have hpn : cat l jp ≠ .ET := by rcases HPRE.out with h | h; omega; simpa using h
            have hdon : cat m jp = cat l jp := by rw [hI.don jp (by omega)]; unfold w5; rw [if_neg (fun h => hpn h.1)]
            rw [hdon] at hcp
            have HPE : Hid (pe l (jp + 1) = decide (cat l jp = .EN)) := by show _ = _; rw [pe, if_neg hpn]
            have b8 : ((cat l jp).e1 == 2) = decide (cat l jp = .EN) := Cl.e1_beq (cat l jp) .EN
            have ej : ((jp + 1 : Nat) : Int) - 1 = jp := by omega
            clear hpn hdon
            by_cases hen : cat l jp = .EN
            · rw [decide_eq_true hen] at b8
              rw [decide_eq_true hen] at HPE
              have HEN := Lib.hid hen
              clear hen
              have HW : Hid (∀ q, (jp + 1) ≤ q → q < k2 → w5 l q = .EN) := by
                intro q h1 h2
                unfold w5
                rw [pe_run q h1 (fun p h3 h4 => HR.out p h3 (by omega)), ne_run (k := k2) (by omega) (k2 - q) q (by omega) (fun p h3 h4 => HR.out p (by omega) h4), HEND.out, HPE.out, HR.out q h1 h2]
                simp
              go_wp2
              go_loopg [2] (k2 - (jp + 1) + 1) (fun k i wr2 => ∃ (q : Nat) (m2 : List Cl), i = .int .i64 q ∧ (jp + 1) ≤ q ∧ q ≤ k2 ∧ InP w wr2 g l (w5 l) q m2 ∧ Hid (k2 - q + 1 ≤ k))
              case atStart => exact ⟨(jp + 1), m, rfl, Nat.le_refl _, hjk, hI, Nat.le_refl _⟩
              case round =>
                obtain ⟨q, m2, rfl, hq1, hq2, hI2, hk2⟩ := hrel
                by_cases hql : q < k2
                · have hw5 := HW.out q hq1 hql
                  have hc2 := hI2.cell q (by omega)
                  have hf2 := hI2.row.free q
                  have hI3 := hI2.set (by omega) .EN hw5
                  clear hw5
                  go_wp2
                  go_roundg (k2 - (q + 1) + 1)
                  case measure => have := hk2.out; omega
                  case rel => exact ⟨q + 1, _, by go_num, by omega, by omega, hI3, Nat.le_refl _⟩
                · obtain rfl : q = k2 := by omega
                  go_wp2
                  go_roundg (l.length + 2 - (q + 1))
                  case measure => have := hk.out; omega
                  case rel => exact HN.out _ _ hI2
            · rw [decide_eq_false hen] at b8
              rw [decide_eq_false hen] at HPE
              have HEN := Lib.hid hen
              clear hen
              by_cases hen2 : cat l k2 = .EN
              · rw [decide_eq_true hen2] at b9
                rw [decide_eq_true hen2] at HEND
                have HEN2 := Lib.hid hen2
                clear hen2
                have HW : Hid (∀ q, (jp + 1) ≤ q → q < k2 → w5 l q = .EN) := by
                  intro q h1 h2
                  unfold w5
                  rw [pe_run q h1 (fun p h3 h4 => HR.out p h3 (by omega)), ne_run (k := k2) (by omega) (k2 - q) q (by omega) (fun p h3 h4 => HR.out p (by omega) h4), HEND.out, HPE.out, HR.out q h1 h2]
                  simp
                go_wp2
                go_loopg [2] (k2 - (jp + 1) + 1) (fun k i wr2 => ∃ (q : Nat) (m2 : List Cl), i = .int .i64 q ∧ (jp + 1) ≤ q ∧ q ≤ k2 ∧ InP w wr2 g l (w5 l) q m2 ∧ Hid (k2 - q + 1 ≤ k))
                case atStart => exact ⟨(jp + 1), m, rfl, Nat.le_refl _, hjk, hI, Nat.le_refl _⟩
                case round =>
                  obtain ⟨q, m2, rfl, hq1, hq2, hI2, hk2⟩ := hrel
                  by_cases hql : q < k2
                  · have hw5 := HW.out q hq1 hql
                    have hc2 := hI2.cell q (by omega)
                    have hf2 := hI2.row.free q
                    have hI3 := hI2.set (by omega) .EN hw5
                    clear hw5
                    go_wp2
                    go_roundg (k2 - (q + 1) + 1)
                    case measure => have := hk2.out; omega
                    case rel => exact ⟨q + 1, _, by go_num, by omega, by omega, hI3, Nat.le_refl _⟩
                  · obtain rfl : q = k2 := by omega
                    go_wp2
                    go_roundg (l.length + 2 - (q + 1))
                    case measure => have := hk.out; omega
                    case rel => exact HN.out _ _ hI2
              · rw [decide_eq_false hen2] at b9
                rw [decide_eq_false hen2] at HEND
                have HEN2 := Lib.hid hen2
                clear hen2
                have HW : Hid (∀ q, (jp + 1) ≤ q → q < k2 → w5 l q = .ET) := by
                  intro q h1 h2
                  unfold w5
                  rw [pe_run q h1 (fun p h3 h4 => HR.out p h3 (by omega)), ne_run (k := k2) (by omega) (k2 - q) q (by omega) (fun p h3 h4 => HR.out p (by omega) h4), HEND.out, HPE.out, HR.out q h1 h2]
                  simp
                go_wp2
                go_loopg [2] (k2 - (jp + 1) + 1) (fun k i wr2 => ∃ (q : Nat) (m2 : List Cl), i = .int .i64 q ∧ (jp + 1) ≤ q ∧ q ≤ k2 ∧ InP w wr2 g l (w5 l) q m2 ∧ Hid (k2 - q + 1 ≤ k))
                case atStart => exact ⟨(jp + 1), m, rfl, Nat.le_refl _, hjk, hI, Nat.le_refl _⟩
                case round =>
                  obtain ⟨q, m2, rfl, hq1, hq2, hI2, hk2⟩ := hrel
                  by_cases hql : q < k2
                  · have hw5 := HW.out q hq1 hql
                    have hc2 := hI2.cell q (by omega)
                    have hf2 := hI2.row.free q
                    have hI3 := hI2.keep (by rw [hw5, HR.out q hq1 hql])
                    clear hw5
                    go_wp2
                    go_roundg (k2 - (q + 1) + 1)
                    case measure => have := hk2.out; omega
                    case rel => exact ⟨q + 1, _, by go_num, by omega, by omega, hI3, Nat.le_refl _⟩
                  · obtain rfl : q = k2 := by omega
                    go_wp2
                    go_roundg (l.length + 2 - (q + 1))
                    case measure => have := hk.out; omega
                    case rel => exact HN.out _ _ hI2
          · obtain rfl : j = 0 := by omega
            have HPE : Hid (pe l 0 = false) := rfl
            by_cases hen2 : cat l k2 = .EN
            · rw [decide_eq_true hen2] at b9
              rw [decide_eq_true hen2] at HEND
              have HEN2 := Lib.hid hen2
              clear hen2
              have HW : Hid (∀ q, 0 ≤ q → q < k2 → w5 l q = .EN) := by
                intro q h1 h2
                unfold w5
                rw [pe_run q h1 (fun p h3 h4 => HR.out p h3 (by omega)), ne_run (k := k2) (by omega) (k2 - q) q (by omega) (fun p h3 h4 => HR.out p (by omega) h4), HEND.out, HPE.out, HR.out q h1 h2]
                simp
              go_wp2
              go_loopg [2] (k2 - 0 + 1) (fun k i wr2 => ∃ (q : Nat) (m2 : List Cl), i = .int .i64 q ∧ 0 ≤ q ∧ q ≤ k2 ∧ InP w wr2 g l (w5 l) q m2 ∧ Hid (k2 - q + 1 ≤ k))
              case atStart => exact ⟨0, m, rfl, Nat.le_refl _, hjk, hI, Nat.le_refl _⟩
              case round =>
                obtain ⟨q, m2, rfl, hq1, hq2, hI2, hk2⟩ := hrel
                by_cases hql : q < k2
                · have hw5 := HW.out q hq1 hql
                  have hc2 := hI2.cell q (by omega)
                  have hf2 := hI2.row.free q
                  have hI3 := hI2.set (by omega) .EN hw5
                  clear hw5
                  go_wp2
                  go_roundg (k2 - (q + 1) + 1)
                  case measure => have := hk2.out; omega
                  case rel => exact ⟨q + 1, _, by go_num, by omega, by omega, hI3, Nat.le_refl _⟩
                · obtain rfl : q = k2 := by omega
                  go_wp2
                  go_roundg (l.length + 2 - (q + 1))
                  case measure => have := hk.out; omega
                  case rel => exact HN.out _ _ hI2
            · rw [decide_eq_false hen2] at b9
              rw [decide_eq_false hen2] at HEND
              have HEN2 := Lib.hid hen2
              clear hen2
              have HW : Hid (∀ q, 0 ≤ q → q < k2 → w5 l q = .ET) := by
                intro q h1 h2
                unfold w5
                rw [pe_run q h1 (fun p h3 h4 => HR.out p h3 (by omega)), ne_run (k := k2) (by omega) (k2 - q) q (by omega) (fun p h3 h4 => HR.out p (by omega) h4), HEND.out, HPE.out, HR.out q h1 h2]
                simp
              go_wp2
              go_loopg [2] (k2 - 0 + 1) (fun k i wr2 => ∃ (q : Nat) (m2 : List Cl), i = .int .i64 q ∧ 0 ≤ q ∧ q ≤ k2 ∧ InP w wr2 g l (w5 l) q m2 ∧ Hid (k2 - q + 1 ≤ k))
              case atStart => exact ⟨0, m, rfl, Nat.le_refl _, hjk, hI, Nat.le_refl _⟩
              case round =>
                obtain ⟨q, m2, rfl, hq1, hq2, hI2, hk2⟩ := hrel
                by_cases hql : q < k2
                · have hw5 := HW.out q hq1 hql
                  have hc2 := hI2.cell q (by omega)
                  have hf2 := hI2.row.free q
                  have hI3 := hI2.keep (by rw [hw5, HR.out q hq1 hql])
                  clear hw5
                  go_wp2
                  go_roundg (k2 - (q + 1) + 1)
                  case measure => have := hk2.out; omega
                  case rel => exact ⟨q + 1, _, by go_num, by omega, by omega, hI3, Nat.le_refl _⟩
                · obtain rfl : q = k2 := by omega
                  go_wp2
                  go_roundg (l.length + 2 - (q + 1))
                  case measure => have := hk.out; omega
                  case rel => exact HN.out _ _ hI2
        · obtain rfl : k2 = l.length := by omega
          by_cases hkj : l.length = j
          · omega
          have hbj : ((l.length : Int) == (j : Int)) = false := by simp; omega
          have HN : Hid (∀ (wr2 : World) (m2 : List Cl), InP w wr2 g l (w5 l) l.length m2 → ∃ j' : Nat, Value.int .i64 ((l.length : Int) + 1) = .int .i64 j' ∧ j' ≤ l.length + 1 ∧ TermL w g l wr2 j' ∧ Hid (l.length + 2 - j' ≤ l.length + 2 - (l.length + 1))) := fun wr2 m2 h => NEXT.out wr2 m2 h (fun e => absurd e (by omega))
          have HEND : Hid (ne l l.length = false) := ne_end (Nat.le_refl _)
          clear NEXT
          by_cases hj0 : 0 < j
          · obtain ⟨jp, rfl⟩ : ∃ jp, j = jp + 1 := ⟨j - 1, by omega⟩
            have hcp := hI.cell jp (by omega)
            have hpn : cat l jp ≠ .ET := by rcases HPRE.out with h | h; omega; simpa using h
            have hdon : cat m jp = cat l jp := by rw [hI.don jp (by omega)]; unfold w5; rw [if_neg (fun h => hpn h.1)]
            rw [hdon] at hcp
            have HPE : Hid (pe l (jp + 1) = decide (cat l jp = .EN)) := by show _ = _; rw [pe, if_neg hpn]
            have b8 : ((cat l jp).e1 == 2) = decide (cat l jp = .EN) := Cl.e1_beq (cat l jp) .EN
            have ej : ((jp + 1 : Nat) : Int) - 1 = jp := by omega
            clear hpn hdon
            by_cases hen : cat l jp = .EN
            · rw [decide_eq_true hen] at b8
              rw [decide_eq_true hen] at HPE
              have HEN := Lib.hid hen
              clear hen
              have HW : Hid (∀ q, (jp + 1) ≤ q → q < l.length → w5 l q = .EN) := by
                intro q h1 h2
                unfold w5
                rw [pe_run q h1 (fun p h3 h4 => HR.out p h3 (by omega)), ne_run (k := l.length) (by omega) (l.length - q) q (by omega) (fun p h3 h4 => HR.out p (by omega) h4), HEND.out, HPE.out, HR.out q h1 h2]
                simp
              go_wp2
              go_loopg [2] (l.length - (jp + 1) + 1) (fun k i wr2 => ∃ (q : Nat) (m2 : List Cl), i = .int .i64 q ∧ (jp + 1) ≤ q ∧ q ≤ l.length ∧ InP w wr2 g l (w5 l) q m2 ∧ Hid (l.length - q + 1 ≤ k))
              case atStart => exact ⟨(jp + 1), m, rfl, Nat.le_refl _, hjk, hI, Nat.le_refl _⟩
              case round =>
                obtain ⟨q, m2, rfl, hq1, hq2, hI2, hk2⟩ := hrel
                by_cases hql : q < l.length
                · have hw5 := HW.out q hq1 hql
                  have hc2 := hI2.cell q (by omega)
                  have hf2 := hI2.row.free q
                  have hI3 := hI2.set (by omega) .EN hw5
                  clear hw5
                  go_wp2
                  go_roundg (l.length - (q + 1) + 1)
                  case measure => have := hk2.out; omega
                  case rel => exact ⟨q + 1, _, by go_num, by omega, by omega, hI3, Nat.le_refl _⟩
                · have hqe : q = l.length := by omega
                  rw [hqe] at hI2 ⊢
                  clear hqe hql hq1 hq2
                  go_wp2
                  go_roundg (l.length + 2 - (l.length + 1))
                  case measure => have := hk.out; omega
                  case rel => exact HN.out _ _ hI2
            · rw [decide_eq_false hen] at b8
              rw [decide_eq_false hen] at HPE
              have HEN := Lib.hid hen
              clear hen
              have HW : Hid (∀ q, (jp + 1) ≤ q → q < l.length → w5 l q = .ET) := by
                intro q h1 h2
                unfold w5
                rw [pe_run q h1 (fun p h3 h4 => HR.out p h3 (by omega)), ne_run (k := l.length) (by omega) (l.length - q) q (by omega) (fun p h3 h4 => HR.out p (by omega) h4), HEND.out, HPE.out, HR.out q h1 h2]
                simp
              go_wp2
              go_loopg [2] (l.length - (jp + 1) + 1) (fun k i wr2 => ∃ (q : Nat) (m2 : List Cl), i = .int .i64 q ∧ (jp + 1) ≤ q ∧ q ≤ l.length ∧ InP w wr2 g l (w5 l) q m2 ∧ Hid (l.length - q + 1 ≤ k))
              case atStart => exact ⟨(jp + 1), m, rfl, Nat.le_refl _, hjk, hI, Nat.le_refl _⟩
              case round =>
                obtain ⟨q, m2, rfl, hq1, hq2, hI2, hk2⟩ := hrel
                by_cases hql : q < l.length
                · have hw5 := HW.out q hq1 hql
                  have hc2 := hI2.cell q (by omega)
                  have hf2 := hI2.row.free q
                  have hI3 := hI2.keep (by rw [hw5, HR.out q hq1 hql])
                  clear hw5
                  go_wp2
                  go_roundg (l.length - (q + 1) + 1)
                  case measure => have := hk2.out; omega
                  case rel => exact ⟨q + 1, _, by go_num, by omega, by omega, hI3, Nat.le_refl _⟩
                · have hqe : q = l.length := by omega
                  rw [hqe] at hI2 ⊢
                  clear hqe hql hq1 hq2
                  go_wp2
                  go_roundg (l.length + 2 - (l.length + 1))
                  case measure => have := hk.out; omega
                  case rel => exact HN.out _ _ hI2
          · obtain rfl : j = 0 := by omega
            have HPE : Hid (pe l 0 = false) := rfl
            have HW : Hid (∀ q, 0 ≤ q → q < l.length → w5 l q = .ET) := by
              intro q h1 h2
              unfold w5
              rw [pe_run q h1 (fun p h3 h4 => HR.out p h3 (by omega)), ne_run (k := l.length) (by omega) (l.length - q) q (by omega) (fun p h3 h4 => HR.out p (by omega) h4), HEND.out, HPE.out, HR.out q h1 h2]
              simp
            go_wp2
            go_loopg [2] (l.length - 0 + 1) (fun k i wr2 => ∃ (q : Nat) (m2 : List Cl), i = .int .i64 q ∧ 0 ≤ q ∧ q ≤ l.length ∧ InP w wr2 g l (w5 l) q m2 ∧ Hid (l.length - q + 1 ≤ k))
            case atStart => exact ⟨0, m, rfl, Nat.le_refl _, hjk, hI, Nat.le_refl _⟩
            case round =>
              obtain ⟨q, m2, rfl, hq1, hq2, hI2, hk2⟩ := hrel
              by_cases hql : q < l.length
              · have hw5 := HW.out q hq1 hql
                have hc2 := hI2.cell q (by omega)
                have hf2 := hI2.row.free q
                have hI3 := hI2.keep (by rw [hw5, HR.out q hq1 hql])
                clear hw5
                go_wp2
                go_roundg (l.length - (q + 1) + 1)
                case measure => have := hk2.out; omega
                case rel => exact ⟨q + 1, _, by go_num, by omega, by omega, hI3, Nat.le_refl _⟩
              · have hqe : q = l.length := by omega
                rw [hqe] at hI2 ⊢
                clear hqe hql hq1 hq2
                go_wp2
                go_roundg (l.length + 2 - (l.length + 1))
                case measure => have := hk.out; omega
                case rel => exact HN.out _ _ hI2
    · obtain ⟨m, hI, _⟩ := hT
      rw [Nat.min_eq_right (by omega)] at hI
      have HE := Lib.hid hI.fin
      go_wp2
      go_end0
      refine ⟨rfl, ?_, hI.up⟩
      rw [w5L, ← HE.out]
      exact hI.row
end Go.Proofs.YtjahmnenfknjgaaGreatDoor
