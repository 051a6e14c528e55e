/- The package's resolveImplicitLevels, by its contract. -/
import Derived.Test.YtjahmnenfknjgaaGreatDoorG8
import Derived.Test.YtjahmnenfknjgaaGreatDoorG6
import Derived.Deep.RegionHeld3
import Derived.Laws.Cover3
set_option linter.unusedVariables false
set_option linter.unusedSimpArgs false
namespace Go.Proofs.YtjahmnenfknjgaaGreatDoor
open Go.RowKit

theorem info112 : (Tryz.prog.info? 112).map (fun i => (i.zero, i.size, i.bytes)) = some (some (.int .i8 0), 1, 1) := by kernel_rfl
/-- The classes that I1 and I2 meet. -/
def impC : List Cl := [.L, .R, .EN, .AN]
theorem impC_p4 (c : Cl) (h : c.p4 = true) : impC.contains c = true := by revert h; cases c <;> decide
/-- The levels when k places are done. -/
def impK (l : List Cl) (lv : Int) (k : Nat) : List Int := (List.range l.length).map fun q => if q < k then ilv lv (cat l q) else lv
theorem impK_length (l : List Cl) (lv : Int) (k : Nat) : (impK l lv k).length = l.length := by simp [impK]
theorem nth_impK {l : List Cl} {lv : Int} {k q : Nat} (h : q < l.length) : nth (impK l lv k) q = if q < k then ilv lv (cat l q) else lv := by simp [nth, impK, h]
theorem impK_zero (l : List Cl) (lv : Int) : impK l lv 0 = List.replicate l.length lv := by
  refine nths_ext (by simp [impK]) fun p hp => ?_
  rw [impK_length] at hp
  rw [nth_impK hp, if_neg (by omega), nth_replicate hp]
theorem impK_end (l : List Cl) (lv : Int) : impK l lv l.length = impS l lv := by
  refine nths_ext (by simp [impK, impS]) fun p hp => ?_
  rw [impK_length] at hp
  rw [nth_impK hp, if_pos hp]; simp [nth, impS, hp, cat]
theorem impK_set {l : List Cl} {lv : Int} {k : Nat} {x : Int} (h : k < l.length) (hx : ilv lv (cat l k) = x) : (impK l lv k).set k x = impK l lv (k + 1) := by
  refine nths_ext (by simp [impK]) fun p hp => ?_
  rw [List.length_set, impK_length] at hp
  rw [nth_set (by rw [impK_length]; exact h), nth_impK hp, nth_impK hp]
  by_cases e : p = k
  · subst e; rw [if_pos rfl, if_pos (by omega), hx]
  · rw [if_neg e]
    by_cases e2 : p < k
    · rw [if_pos e2, if_pos (by omega)]
    · rw [if_neg e2, if_neg (by omega)]
theorem impK_same {l : List Cl} {lv : Int} {k : Nat} (h : k < l.length) (hx : ilv lv (cat l k) = lv) : impK l lv k = impK l lv (k + 1) := by
  refine nths_ext (by simp [impK]) fun p hp => ?_
  rw [impK_length] at hp
  rw [nth_impK hp, nth_impK hp]
  by_cases e : p = k
  · subst e; rw [if_neg (by omega), if_pos (by omega), hx]
  · by_cases e2 : p < k
    · rw [if_pos e2, if_pos (by omega)]
    · rw [if_neg e2, if_neg (by omega)]

set_option maxHeartbeats 16000000 in
set_option maxRecDepth 100000 in
theorem implicit_any (B : QB) (l : List Cl) (w : World) (hX : QF B w w l) (hl : AllC Cl.p4 l) (hlv0 : 0 ≤ B.lv) (hlv1 : B.lv ≤ 125) (hm : B.n ≤ 2147483647) :
    Calls Tryz.prog 88 #[.pointer (some ⟨B.q, 0, none⟩)] w fun e w' => e = .returned (.tuple #[]) ∧ ∃ g, w.heap.size ≤ g ∧
      Sq w' B.q B.p (.slice B.A B.n B.ic) (.slice (some ⟨B.gt, 0, none⟩) B.n B.ct) (.slice (some ⟨g, 0, none⟩) B.n B.n) B.lv B.so B.eo ∧ Row w' B.gt 77 (clsU l) ∧ Row w' g 112 (nums .i8 (impS l B.lv)) ∧ Upd [B.q] w w' := by
  have HC : Hid (∀ j, j < B.n → impC.contains (cat l j) = true) := fun j hj => impC_p4 _ (hl j (by rw [hX.ln]; exact hj))
  have HP := Lib.hid hl
  have HLN := Lib.hid hX.ln
  obtain ⟨i0, hi', hz0, hz1, hz2⟩ := info_parts info112
  clear hl
  go_enter Tryz.func88, Tryz.ntmps88
  go_wp2_with (first
    | (go_at_call 109; refine (assertOnly_upd (codes := impC) hX.sq.cells.c2 hX.rt hX.ln hm (by simp) (by rfl) (by rfl) (by decide) HC.out).mono ?_; rintro e w1 ⟨rfl, hu1⟩; have hX1 := hX.upd0 hu1; have k2 := hX1.sq.cells.c2)
    | (at_make; refine wpList_make_full _ rfl _ _ 113 rfl w1.heap.size 112 i0 (.int .i8 0) 1 Tryz.underlying113 hi' hz0 hz1 _ _ _ _ B.n rfl rfl rfl rfl ?b1 ?b2 ?b3 ?_))
  case b1 => rw [hz2]; omega
  case b2 => unfold maxLen; omega
  case b3 => exact Nat.le_refl _
  intro w2 hown2 hgrow2
  rw [made_nums] at hown2
  have hO := Row.of_owns hown2
  have hX2 := hX1.upd0 ((Upd.refl [] w1).grown0 hgrow2)
  have hszw : w.heap.size ≤ w1.heap.size := hu1.size
  have hU2 : Upd [B.q] w w2 := (hu1.mono (by simp)).grown0 hgrow2
  have hq1 : B.q < w1.heap.size := Row.lt hX1.sq
  have ht1 : B.gt < w1.heap.size := hX1.rt.lt
  clear hown2 hgrow2 hX hu1 hX1 k2
  generalize hgs : w1.heap.size = g at *
  clear hgs
  have c3 := hX2.sq.cells.c3
  have f3 := Row.free hX2.sq 3
  have hS3 := hX2.sq.set3 (.slice (some ⟨g, 0, none⟩) B.n B.n)
  have hO3 := hO.other (p := ⟨B.q, 3, none⟩) (by simp only []; omega) (.slice (some ⟨g, 0, none⟩) B.n B.n)
  have hT3 := hX2.rt.other (p := ⟨B.q, 3, none⟩) (fun e => hX2.ne e.symm) (.slice (some ⟨g, 0, none⟩) B.n B.n)
  have hU3 := hU2.setCell (p := ⟨B.q, 3, none⟩) (.inl (by simp)) (.slice (some ⟨g, 0, none⟩) B.n B.n)
  have hne := hX2.ne
  go_wp2
  generalize w2.setCell ⟨B.q, 3, none⟩ (.slice (some ⟨g, 0, none⟩) B.n B.n) = w4 at *
  clear c3 f3 hO hX2 hU2
  have n1 : B.q ≠ g := by omega
  have n2 : B.gt ≠ g := by omega
  go_region_held3 (fun w' => w'.cell? ⟨B.q, 3, none⟩ = some (.slice (some ⟨g, 0, none⟩) B.n B.n) ∧ w'.cell? ⟨B.q, 4, none⟩ = some (.int .i8 B.lv))
    (first | exact ⟨hS3.cells.c3, hS3.cells.c4⟩ | exact ⟨(hS3.upd hu5 (by simp; omega)).cells.c3, (hS3.upd hu5 (by simp; omega)).cells.c4⟩)
    (first | (go_at_call 103; refine (setLevels_any g B.n B.n (List.replicate B.n 0) B.lv _ hO3.drew (by simp) hm).mono ?_; rintro e w5 ⟨rfl, hr5, hu5'⟩; have hu5 : Upd [g] w4 w5 := ((Upd.refl [g] w4).drew).trans hu5'))
  have hS5 := hS3.upd hu5 (by simpa using n1)
  have hT5 := hT3.upd hu5 (by simpa using n2)
  have hU5 : Upd [B.q] w w5 := hU3.step hu5 (fun t ht => .inr (by simp at ht; omega))
  have c2 := hS5.cells.c2
  have c3 := hS5.cells.c3
  have c4 := hS5.cells.c4
  have hb := low_bit hlv0 (show B.lv ≤ 127 by omega)
  have HK0 : Hid (Row w5 g 112 (nums .i8 (impK l B.lv 0))) := by show Row _ _ _ _; rw [impK_zero, HLN.out]; exact hr5
  have HS5 := Lib.hid hS5
  have HT5 := Lib.hid hT5
  have HU5 := Lib.hid hU5
  clear hS3 hT3 hO3 hU3 hr5 hu5 hu5' hT5 hU5 hS5
  by_cases hpar : B.lv % 2 = 0
  · have hpb : (B.lv % 2 == 0) = true := by rw [hpar]; rfl
    have HPA := Lib.hid hpar
    clear hpar
    go_wp2
    go_loopg [38] (B.n + 1) (fun k i wr => ∃ (j : Nat), i = .int .i64 j ∧ j ≤ B.n ∧ Row wr g 112 (nums .i8 (impK l B.lv j)) ∧ Upd [g] w5 wr ∧ Hid (B.n + 1 - j ≤ k))
    case atStart => exact ⟨0, rfl, by omega, HK0.out, Upd.refl _ _, Nat.le_refl _⟩
    case round =>
      obtain ⟨j, rfl, hj, hR, hv, hk⟩ := hrel
      have hS := HS5.out.upd hv (by simpa using n1)
      have hT := HT5.out.upd hv (by simpa using n2)
      clear c2 c3 c4
      have c2 := hS.cells.c2
      have c3 := hS.cells.c3
      by_cases hlt : j < B.n
      · have hjl : j < l.length := by rw [HLN.out]; exact hlt
        have hc := hT.cls j hjl
        have hg := hR.num j (by rw [impK_length]; exact hjl)
        rw [nth_impK hjl, if_neg (Nat.lt_irrefl j)] at hg
        have hf := hR.free j
        have hp4 := HP.out j hjl
        obtain ⟨x, hx⟩ : ∃ x, x = cat l j := ⟨_, rfl⟩
        rw [← hx] at hc hp4
        have HX := Lib.hid hx
        clear hx
        have hx4 : x = .L ∨ x = .R ∨ x = .EN ∨ x = .AN := by revert hp4; cases x <;> simp [Cl.p4]
        clear hp4
        rcases hx4 with rfl | rfl | rfl | rfl
        · have HS := Lib.hid (impK_same (l := l) (lv := B.lv) hjl (by rw [← HX.out, ilv, if_pos HPA.out]; rfl))
          replace hc : wr.cell? ⟨B.gt, j, none⟩ = some (.int .u64 0) := hc
          go_wp2
          go_roundg (B.n + 1 - (j + 1))
          case measure => have := hk.out; omega
          case rel => exact ⟨j + 1, by go_num, by omega, by rw [← HS.out]; exact hR, hv, Nat.le_refl _⟩
        · have HS := Lib.hid (impK_set (l := l) (lv := B.lv) (x := B.lv + 1) hjl (by rw [← HX.out, ilv, if_pos HPA.out]; rfl))
          replace hc : wr.cell? ⟨B.gt, j, none⟩ = some (.int .u64 1) := hc
          go_wp2
          go_roundg (B.n + 1 - (j + 1))
          case measure => have := hk.out; omega
          case rel => exact ⟨j + 1, by go_num, by omega, by rw [← HS.out]; exact hR.setNum j _ (by rw [impK_length]; exact hjl), hv.setCell (p := ⟨g, j, none⟩) (.inl (by simp)) _, Nat.le_refl _⟩
        · have HS := Lib.hid (impK_set (l := l) (lv := B.lv) (x := B.lv + 2) hjl (by rw [← HX.out, ilv, if_pos HPA.out]; rfl))
          replace hc : wr.cell? ⟨B.gt, j, none⟩ = some (.int .u64 2) := hc
          go_wp2
          go_roundg (B.n + 1 - (j + 1))
          case measure => have := hk.out; omega
          case rel => exact ⟨j + 1, by go_num, by omega, by rw [← HS.out]; exact hR.setNum j _ (by rw [impK_length]; exact hjl), hv.setCell (p := ⟨g, j, none⟩) (.inl (by simp)) _, Nat.le_refl _⟩
        · have HS := Lib.hid (impK_set (l := l) (lv := B.lv) (x := B.lv + 2) hjl (by rw [← HX.out, ilv, if_pos HPA.out]; rfl))
          replace hc : wr.cell? ⟨B.gt, j, none⟩ = some (.int .u64 5) := hc
          go_wp2
          go_roundg (B.n + 1 - (j + 1))
          case measure => have := hk.out; omega
          case rel => exact ⟨j + 1, by go_num, by omega, by rw [← HS.out]; exact hR.setNum j _ (by rw [impK_length]; exact hjl), hv.setCell (p := ⟨g, j, none⟩) (.inl (by simp)) _, Nat.le_refl _⟩
      · obtain rfl : j = B.n := by omega
        rw [← HLN.out, impK_end] at hR
        go_wp2
        go_end0
        exact ⟨rfl, g, hszw, hS, hT, hR, HU5.out.step hv (fun t ht => .inr (by simp at ht; omega))⟩
  · have hpb : (B.lv % 2 == 0) = false := by
      have : B.lv % 2 = 1 := by omega
      rw [this]; rfl
    have HPA := Lib.hid hpar
    clear hpar
    go_wp2
    go_loopg [71] (B.n + 1) (fun k i wr => ∃ (j : Nat), i = .int .i64 j ∧ j ≤ B.n ∧ Row wr g 112 (nums .i8 (impK l B.lv j)) ∧ Upd [g] w5 wr ∧ Hid (B.n + 1 - j ≤ k))
    case atStart => exact ⟨0, rfl, by omega, HK0.out, Upd.refl _ _, Nat.le_refl _⟩
    case round =>
      obtain ⟨j, rfl, hj, hR, hv, hk⟩ := hrel
      have hS := HS5.out.upd hv (by simpa using n1)
      have hT := HT5.out.upd hv (by simpa using n2)
      clear c2 c3 c4
      have c2 := hS.cells.c2
      have c3 := hS.cells.c3
      by_cases hlt : j < B.n
      · have hjl : j < l.length := by rw [HLN.out]; exact hlt
        have hc := hT.cls j hjl
        have hg := hR.num j (by rw [impK_length]; exact hjl)
        rw [nth_impK hjl, if_neg (Nat.lt_irrefl j)] at hg
        have hf := hR.free j
        obtain ⟨x, hx⟩ : ∃ x, x = cat l j := ⟨_, rfl⟩
        rw [← hx] at hc
        have HX := Lib.hid hx
        clear hx
        have hbx : (x.e2 == 1) = decide (x = .R) := Cl.e2_beq x .R
        by_cases hr : x = .R
        · rw [decide_eq_true hr] at hbx
          have HS := Lib.hid (impK_same (l := l) (lv := B.lv) hjl (by rw [← HX.out, ilv, if_neg HPA.out, if_pos hr]))
          clear hr
          go_wp2
          go_roundg (B.n + 1 - (j + 1))
          case measure => have := hk.out; omega
          case rel => exact ⟨j + 1, by go_num, by omega, by rw [← HS.out]; exact hR, hv, Nat.le_refl _⟩
        · rw [decide_eq_false hr] at hbx
          have HS := Lib.hid (impK_set (l := l) (lv := B.lv) (x := B.lv + 1) hjl (by rw [← HX.out, ilv, if_neg HPA.out, if_neg hr]))
          clear hr
          go_wp2
          go_roundg (B.n + 1 - (j + 1))
          case measure => have := hk.out; omega
          case rel => exact ⟨j + 1, by go_num, by omega, by rw [← HS.out]; exact hR.setNum j _ (by rw [impK_length]; exact hjl), hv.setCell (p := ⟨g, j, none⟩) (.inl (by simp)) _, Nat.le_refl _⟩
      · obtain rfl : j = B.n := by omega
        rw [← HLN.out, impK_end] at hR
        go_wp2
        go_end0
        exact ⟨rfl, g, hszw, hS, hT, hR, HU5.out.step hv (fun t ht => .inr (by simp at ht; omega))⟩
end Go.Proofs.YtjahmnenfknjgaaGreatDoor
namespace Go.Proofs.YtjahmnenfknjgaaGreatDoor
open Go.RowKit

theorem info135 : (Tryz.prog.info? 135).map (fun i => (i.zero, i.size, i.bytes)) = some (some (.int .u8 0), 1, 1) := by kernel_rfl
/-- A list with its first k places copied. -/
def cpy (l : List Int) (k : Nat) : List Int := l.take k ++ (List.replicate l.length (0 : Int)).drop k
theorem cpy_length (l : List Int) (k : Nat) (h : k ≤ l.length) : (cpy l k).length = l.length := by simp [cpy]; omega
theorem cpy_zero (l : List Int) : cpy l 0 = List.replicate l.length 0 := by simp [cpy]
theorem cpy_end (l : List Int) : cpy l l.length = l := by simp [cpy]
theorem cpy_set {l : List Int} {k : Nat} (h : k < l.length) : (cpy l k).set k (nth l k) = cpy l (k + 1) := by
  unfold cpy
  rw [List.set_append_right _ _ (by simp; omega), show k - (l.take k).length = 0 by simp; omega, List.drop_eq_getElem_cons (by simp; omega), List.set_cons_zero, List.take_succ_eq_append_getElem h, nth_eq h]
  simp

set_option maxHeartbeats 2000000 in
set_option maxRecDepth 100000 in
theorem brackets_any (A : Option Addr) (c : Nat) (l : List Int) (w : World) (hr : Rd w A (nums .u8 l)) (hm : l.length ≤ 2147483647) :
    Calls Tryz.prog 80 #[.slice A l.length c] w fun e w' => e = .returned (.slice (some ⟨w.heap.size, 0, none⟩) l.length l.length) ∧ Row w' w.heap.size 135 (nums .u8 l) ∧ Upd [] w w' := by
  obtain ⟨i0, hi', hz0, hz1, hz2⟩ := info_parts info135
  go_enter Tryz.func80, Tryz.ntmps80
  go_wp2_with (at_make; refine wpList_make_full _ rfl _ _ 110 rfl w.heap.size 135 i0 (.int .u8 0) 1 Tryz.underlying110 hi' hz0 hz1 _ _ _ _ l.length rfl rfl rfl rfl ?b1 ?b2 ?b3 ?_)
  case b1 => rw [hz2]; omega
  case b2 => unfold maxLen; omega
  case b3 => exact Nat.le_refl _
  intro w1 hown1 hgrow1
  rw [made_nums] at hown1
  have HO : Hid (Row w1 w.heap.size 135 (nums .u8 (cpy l 0))) := by show Row _ _ _ _; rw [cpy_zero]; exact Row.of_owns hown1
  have hu1 : Upd [] w w1 := (Upd.refl _ _).grown0 hgrow1
  clear hown1 hgrow1
  go_wp2
  go_loopg [11] (l.length + 1) (fun k i wr => ∃ (j : Nat), i = .int .i64 j ∧ j ≤ l.length ∧ Row wr w.heap.size 135 (nums .u8 (cpy l j)) ∧ Upd [] w wr ∧ Hid (l.length + 1 - j ≤ k))
  case atStart => exact ⟨0, rfl, by omega, HO.out, hu1, Nat.le_refl _⟩
  case round =>
    obtain ⟨j, rfl, hj, hrr, hu, hk⟩ := hrel
    by_cases hlt : j < l.length
    · have hc := hrr.num j (by rw [cpy_length _ _ hj]; exact hlt)
      have hf := hrr.free j
      obtain ⟨ga, oa, rfl, hca⟩ := (hr.keep hu).num j hlt
      have HS := Lib.hid (cpy_set hlt)
      go_wp2
      go_roundg (l.length + 1 - (j + 1))
      case measure => have := hk.out; omega
      case rel => exact ⟨j + 1, by go_num, by omega, by rw [← HS.out]; exact hrr.setNum j _ (by rw [cpy_length _ _ hj]; exact hlt), hu.setCell (p := ⟨w.heap.size, j, none⟩) (.inr (Nat.le_refl _)) _, Nat.le_refl _⟩
    · have HE : Hid (cpy l j = l) := by
        obtain rfl : j = l.length := by omega
        exact cpy_end l
      go_wp2
      go_ret
      exact ⟨rfl, by rw [← HE.out]; exact hrr, hu⟩
set_option maxHeartbeats 2000000 in
set_option maxRecDepth 100000 in
theorem numbers_any (A : Option Addr) (c : Nat) (l : List Int) (w : World) (hr : Rd w A (nums .i8 l)) (hm : l.length ≤ 2147483647) :
    Calls Tryz.prog 81 #[.slice A l.length c] w fun e w' => e = .returned (.slice (some ⟨w.heap.size, 0, none⟩) l.length l.length) ∧ Row w' w.heap.size 60 (nums .i8 l) ∧ Upd [] w w' := by
  obtain ⟨i0, hi', hz0, hz1, hz2⟩ := info_parts info60
  go_enter Tryz.func81, Tryz.ntmps81
  go_wp2_with (at_make; refine wpList_make_full _ rfl _ _ 59 rfl w.heap.size 60 i0 (.int .i8 0) 1 Tryz.underlying59 hi' hz0 hz1 _ _ _ _ l.length rfl rfl rfl rfl ?b1 ?b2 ?b3 ?_)
  case b1 => rw [hz2]; omega
  case b2 => unfold maxLen; omega
  case b3 => exact Nat.le_refl _
  intro w1 hown1 hgrow1
  rw [made_nums] at hown1
  have HO : Hid (Row w1 w.heap.size 60 (nums .i8 (cpy l 0))) := by show Row _ _ _ _; rw [cpy_zero]; exact Row.of_owns hown1
  have hu1 : Upd [] w w1 := (Upd.refl _ _).grown0 hgrow1
  clear hown1 hgrow1
  go_wp2
  go_loopg [11] (l.length + 1) (fun k i wr => ∃ (j : Nat), i = .int .i64 j ∧ j ≤ l.length ∧ Row wr w.heap.size 60 (nums .i8 (cpy l j)) ∧ Upd [] w wr ∧ Hid (l.length + 1 - j ≤ k))
  case atStart => exact ⟨0, rfl, by omega, HO.out, hu1, Nat.le_refl _⟩
  case round =>
    obtain ⟨j, rfl, hj, hrr, hu, hk⟩ := hrel
    by_cases hlt : j < l.length
    · have hc := hrr.num j (by rw [cpy_length _ _ hj]; exact hlt)
      have hf := hrr.free j
      obtain ⟨ga, oa, rfl, hca⟩ := (hr.keep hu).num j hlt
      have HS := Lib.hid (cpy_set hlt)
      go_wp2
      go_roundg (l.length + 1 - (j + 1))
      case measure => have := hk.out; omega
      case rel => exact ⟨j + 1, by go_num, by omega, by rw [← HS.out]; exact hrr.setNum j _ (by rw [cpy_length _ _ hj]; exact hlt), hu.setCell (p := ⟨w.heap.size, j, none⟩) (.inr (Nat.le_refl _)) _, Nat.le_refl _⟩
    · have HE : Hid (cpy l j = l) := by
        obtain rfl : j = l.length := by omega
        exact cpy_end l
      go_wp2
      go_ret
      exact ⟨rfl, by rw [← HE.out]; exact hrr, hu⟩
end Go.Proofs.YtjahmnenfknjgaaGreatDoor
namespace Go.Proofs.YtjahmnenfknjgaaGreatDoor
open Go.RowKit

set_option maxHeartbeats 2000000 in
set_option maxRecDepth 100000 in
theorem okTypes_any (gx c : Nat) (cs : List Cl) (w : World) (hr : Row w gx 77 (clsU cs)) (hn : 0 < cs.length) (hc : cs.length ≤ c) (hB : ∀ i, i < cs.length → cat cs i = .B → i + 1 = cs.length) (hm : cs.length ≤ 2147483647) :
    Calls Tryz.prog 95 #[.slice (some ⟨gx, 0, none⟩) cs.length c] w fun e w' => e = .returned Value.nilIface ∧ w = w' := by
  obtain ⟨m, hmn⟩ : ∃ m, cs.length = m + 1 := ⟨cs.length - 1, by omega⟩
  have HB : Hid (∀ i, i < m → cat cs i ≠ .B) := fun i hi h => by have := hB i (by omega) h; omega
  have HR : Hid (∀ i, i < m → w.cell? ⟨gx, i, none⟩ = some (.int .u64 (cat cs i).e2)) := fun i hi => hr.cls i (by omega)
  have hmi : ((m + 1 : Nat) : Int) - 1 = m := by omega
  rw [hmn] at hc ⊢
  have hmm : m ≤ 2147483646 := by omega
  clear hr hn hB hm hmn
  go_enter Tryz.func95, Tryz.ntmps95
  go_wp2
  go_loopg [15] (m + 1) (fun k i wr => ∃ (j : Nat), i = .int .i64 j ∧ j ≤ m ∧ wr = w ∧ Hid (m + 1 - j ≤ k))
  case atStart => exact ⟨0, rfl, by omega, rfl, Nat.le_refl _⟩
  case round =>
    obtain ⟨j, rfl, hj, rfl, hk⟩ := hrel
    by_cases hlt : j < m
    · have hcj := HR.out j hlt
      have hb : ((cat cs j).e2 == 7) = false := by
        have := Cl.e2_beq (cat cs j) .B
        rw [decide_eq_false (HB.out j hlt)] at this
        exact this
      go_wp2
      go_roundg (m + 1 - (j + 1))
      case measure => have := hk.out; omega
      case rel => exact ⟨j + 1, by go_num, by omega, rfl, Nat.le_refl _⟩
    · go_wp2
      go_ret
      exact ⟨rfl, rfl⟩

set_option maxHeartbeats 2000000 in
set_option maxRecDepth 100000 in
theorem okKinds_any (A : Option Addr) (c : Nat) (l : List Int) (w : World) (hr : Rd w A (nums .u8 l)) (hn : 0 < l.length) (hl : ∀ j, j < l.length → nth l j = 0 ∨ nth l j = 1 ∨ nth l j = 2) (hm : l.length ≤ 2147483647) :
    Calls Tryz.prog 96 #[.slice A l.length c] w fun e w' => e = .returned Value.nilIface ∧ w = w' := by
  have HL := Lib.hid hl
  clear hl
  have hb0 : ((l.length : Int) == 0) = false := beq_eq_false_iff_ne.2 (by omega)
  go_enter Tryz.func96, Tryz.ntmps96
  go_wp2
  go_loopg [11] (l.length + 1) (fun k i wr => ∃ (j : Nat), i = .int .i64 j ∧ j ≤ l.length ∧ wr = w ∧ Hid (l.length + 1 - j ≤ k))
  case atStart => exact ⟨0, rfl, by omega, rfl, Nat.le_refl _⟩
  case round =>
    obtain ⟨j, rfl, hj, rfl, hk⟩ := hrel
    by_cases hlt : j < l.length
    · obtain ⟨g, o, rfl, hcj⟩ := hr.num j hlt
      rcases HL.out j hlt with h | h | h
      all_goals
        rw [h] at hcj
        clear h
        go_wp2
        go_roundg (l.length + 1 - (j + 1))
        case measure => have := hk.out; omega
        case rel => exact ⟨j + 1, by go_num, by omega, rfl, Nat.le_refl _⟩
    · go_wp2
      go_ret
      exact ⟨rfl, rfl⟩

set_option maxHeartbeats 2000000 in
set_option maxRecDepth 100000 in
theorem okValues_any (g o n c c' : Nat) (B : Option Addr) (w : World) :
    Calls Tryz.prog 97 #[.slice (some ⟨g, o, none⟩) n c, .slice B n c'] w fun e w' => e = .returned Value.nilIface ∧ w = w' := by
  have hb : ((n : Int) != (n : Int)) = false := by simp
  have hq : ∀ w, (binOp .eql 68 (.slice (some ⟨g, o, none⟩) n c) (.slice none 0 0)).run Tryz.prog w = .ok (.bool false) w := fun w => by
    simp only [binOp]
    simp [Go.run_equal_slice_nil w 68 _ (some ⟨g, o, none⟩) n c Tryz.underlying68]
  go_enter Tryz.func97, Tryz.ntmps97
  go_wp2
  go_ret
  exact ⟨rfl, rfl⟩
set_option maxHeartbeats 2000000 in
set_option maxRecDepth 100000 in
theorem okLevel_any (x : Int) (w : World) (h : x = -1 ∨ x = 0 ∨ x = 1) :
    Calls Tryz.prog 98 #[.int .i8 x] w fun e w' => e = .returned Value.nilIface ∧ w = w' := by
  rcases h with rfl | rfl | rfl
  all_goals
    go_enter Tryz.func98, Tryz.ntmps98
    go_wp2
    go_ret
    exact ⟨rfl, rfl⟩
end Go.Proofs.YtjahmnenfknjgaaGreatDoor
namespace Go.Proofs.YtjahmnenfknjgaaGreatDoor
open Go.RowKit

set_option maxHeartbeats 16000000 in
set_option maxRecDepth 100000 in
theorem apply_any (q b gi gt g gT gL n N ic ct cT cL : Nat) (i0 pt pv mm ss : Value) (base lv : Int) (so eo : Cl) (pl : List Nat) (r : List Cl) (v : List Int) (T : List Cl) (V : List Int) (w : World)
    (hs : Sq w q (.pointer (some ⟨b, 0, none⟩)) (.slice (some ⟨gi, 0, none⟩) n ic) (.slice (some ⟨gt, 0, none⟩) n ct) (.slice (some ⟨g, 0, none⟩) n n) lv so eo)
    (hp : Par w b i0 pt pv base (.slice (some ⟨gT, 0, none⟩) N cT) (.slice (some ⟨gL, 0, none⟩) N cL) mm ss)
    (hi : Row w gi 3 (nums .i64 (nats pl))) (hr : Row w gt 77 (clsU r)) (hv : Row w g 112 (nums .i8 v)) (hT : Row w gT 77 (clsU T)) (hV : Row w gL 112 (nums .i8 V))
    (n1 : gt ≠ gT) (n2 : g ≠ gL) (l1 : pl.length = n) (l2 : r.length = n) (l3 : v.length = n) (l4 : T.length = N) (l5 : V.length = N) (hin : ∀ x, x ∈ pl → x < N) (hm : N ≤ 2147483647) (hn : n ≤ 2147483647) :
    Calls Tryz.prog 122 #[.pointer (some ⟨q, 0, none⟩)] w fun e w' => e = .returned (.tuple #[]) ∧ Row w' gT 77 (clsU (scC T pl r n)) ∧ Row w' gL 112 (nums .i8 (scI V pl v n)) ∧ Upd [gT, gL] w w' := by
  have q1 : q ≠ gT := Row.ne_type hs hT (by decide)
  have q2 : q ≠ gL := Row.ne_type hs hV (by decide)
  have b1 : b ≠ gT := Row.ne_type hp hT (by decide)
  have b2 : b ≠ gL := Row.ne_type hp hV (by decide)
  have k1 : gi ≠ gT := hi.ne_type hT (by decide)
  have k2 : gi ≠ gL := hi.ne_type hV (by decide)
  have k3 : gt ≠ gL := hr.ne_type hV (by decide)
  have k4 : g ≠ gT := hv.ne_type hT (by decide)
  have k5 : gT ≠ gL := hT.ne_type hV (by decide)
  have L1 := Lib.hid l1
  have L2 := Lib.hid l2
  have L3 := Lib.hid l3
  have L4 := Lib.hid l4
  have L5 := Lib.hid l5
  have HI := Lib.hid hin
  have HS := Lib.hid hs
  have HPp := Lib.hid hp
  have d1 := hs.cells.c1
  clear l1 l2 l3 l4 l5 hin
  go_enter Tryz.func122, Tryz.ntmps122
  go_wp2
  clear d1
  go_loopg [9] (n + 1) (fun k i wr => ∃ (j : Nat), i = .int .i64 j ∧ j ≤ n ∧ Row wr gT 77 (clsU (scC T pl r j)) ∧ Row wr gL 112 (nums .i8 (scI V pl v j)) ∧ Upd [gT, gL] w wr ∧ Hid (n + 1 - j ≤ k))
  case atStart => exact ⟨0, rfl, by omega, hT, hV, Upd.refl _ _, Nat.le_refl _⟩
  case round =>
    obtain ⟨j, rfl, hj, hTr, hVr, hu, hk⟩ := hrel
    by_cases hlt : j < n
    · have hsr := HS.out.upd hu (by simp; omega)
      have hpr := Par.upd HPp.out hu (by simp; omega)
      have c0 := hsr.cells.c0
      have c2 := hsr.cells.c2
      have c3 := hsr.cells.c3
      have p4 := hpr.cells.c4
      have p5 := hpr.cells.c5
      have hir := hi.upd hu (by simp; omega)
      have hic := hir.num j (by rw [nats_length, L1.out]; exact hlt)
      rw [nth_nats (by rw [L1.out]; exact hlt)] at hic
      have hrc := (hr.upd hu (by simp; omega)).cls j (by rw [L2.out]; exact hlt)
      have hvc := (hv.upd hu (by simp; omega)).num j (by rw [L3.out]; exact hlt)
      have hx := HI.out (nat pl j) (nat_mem (by rw [L1.out]; exact hlt))
      have hTc := hTr.cls (nat pl j) (by rw [scC_length, L4.out]; exact hx)
      have hTf := hTr.free (nat pl j)
      have hVc := hVr.num (nat pl j) (by rw [scI_length, L5.out]; exact hx)
      have hVf := hVr.free (nat pl j)
      obtain ⟨x, hxx⟩ : ∃ x, x = nat pl j := ⟨_, rfl⟩
      rw [← hxx] at hic hx hTc hTf hVc hVf
      have HXX := Lib.hid hxx
      clear hxx
      go_wp2
      go_region
      all_goals (try go_wp2)
      all_goals go_region
      all_goals (try go_wp2)
      go_roundg (n + 1 - (j + 1))
      case measure => have := hk.out; omega
      case rel =>
        refine ⟨j + 1, by go_num, by omega, ?_, ?_, (((hu.setCell (p := ⟨gT, x, none⟩) (.inl (by simp)) _).setCell (p := ⟨gL, x, none⟩) (.inl (by simp)) _).drew).drew, Nat.le_refl _⟩
        · have h1 := (hTr.setCls x (cat r j) (by rw [scC_length, L4.out]; exact hx)).other (p := ⟨gL, x, none⟩) k5 (.int .i8 (nth v j))
          rw [scC, ← HXX.out]; exact h1.drew.drew
        · have h1 := (hVr.other (p := ⟨gT, x, none⟩) (fun e => k5 e.symm) (.int .u64 (cat r j).e2)).setNum x (nth v j) (by rw [scI_length, L5.out]; exact hx)
          rw [scI, ← HXX.out]; exact h1.drew.drew
    · obtain rfl : j = n := by omega
      go_wp2
      go_end0
      exact ⟨rfl, hTr, hVr, hu⟩
end Go.Proofs.YtjahmnenfknjgaaGreatDoor
