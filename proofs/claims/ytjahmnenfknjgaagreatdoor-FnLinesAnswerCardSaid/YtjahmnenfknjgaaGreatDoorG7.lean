/- The package's Class.in, by its contract. -/
import Derived.Test.YtjahmnenfknjgaaGreatDoorG5
import Derived.BigQuiet
import Derived.Deep.QuietTactic
set_option linter.unusedVariables false
set_option linter.unusedSimpArgs false
namespace Go.Proofs.YtjahmnenfknjgaaGreatDoor
open Go.RowKit

set_option maxHeartbeats 2000000 in
set_option maxRecDepth 100000 in
theorem in_any (A : Option Addr) (k : Nat) (c : Cl) (l : List Cl) (w : World) (hr : Rd w A (clsU l)) (hm : l.length ≤ 2147483647) :
    Calls Tryz.prog 106 #[.int .u64 c.e2, .slice A l.length k] w fun e w' => e = .returned (.bool (l.contains c)) ∧ w = w' := by
  obtain ⟨b, hb⟩ : ∃ b, b = l.contains c := ⟨_, rfl⟩
  rw [← hb]
  have HB := Lib.hid hb
  clear hb
  go_enter Tryz.func106, Tryz.ntmps106
  go_wp2
  go_loopg [9] (l.length + 1) (fun k i wr => ∃ (j : Nat), i = .int .i64 j ∧ j ≤ l.length ∧ wr = w ∧ Hid (∀ q, q < j → cat l q ≠ c) ∧ Hid (l.length + 1 - j ≤ k))
  case atStart => exact ⟨0, rfl, by omega, rfl, fun q hq => by omega, Nat.le_refl _⟩
  case round =>
    obtain ⟨j, rfl, hj, rfl, HQ, hk⟩ := hrel
    by_cases hlt : j < l.length
    · obtain ⟨g, o, rfl, hc⟩ := hr.cls j hlt
      have hbq : (c.e2 == (cat l j).e2) = decide (c = cat l j) := Cl.e2_beq c (cat l j)
      by_cases hx : cat l j = c
      · have HE : Hid (b = true) := by
          show _ = _
          rw [HB.out]
          have : cat l j = l[j] := by simp [cat, hlt]
          simp only [List.contains_iff_mem]
          rw [← hx, this]; exact List.getElem_mem _
        rw [decide_eq_true hx.symm] at hbq
        clear hx
        go_wp2
        go_ret
        exact ⟨by rw [HE.out]; rfl, rfl⟩
      · rw [decide_eq_false (fun e => hx e.symm)] at hbq
        have HQ2 : Hid (∀ q, q < j + 1 → cat l q ≠ c) := fun q hq => by
          by_cases e : q = j
          · subst e; exact hx
          · exact HQ.out q (by omega)
        clear hx
        go_wp2
        go_roundg (l.length + 1 - (j + 1))
        case measure => have := hk.out; omega
        case rel => exact ⟨j + 1, by go_num, by omega, rfl, HQ2, Nat.le_refl _⟩
    · have HE : Hid (b = false) := by
        show _ = _
        rw [HB.out]
        simp only [List.contains_eq_mem, decide_eq_false_iff_not]
        intro hm'
        obtain ⟨q, hq, e⟩ := List.getElem_of_mem hm'
        exact HQ.out q (by omega) (by rw [← e]; simp [cat, hq])
      go_wp2
      go_ret
      exact ⟨by rw [HE.out]; rfl, rfl⟩
end Go.Proofs.YtjahmnenfknjgaaGreatDoor
namespace Go.Proofs.YtjahmnenfknjgaaGreatDoor
open Go.RowKit

theorem size164 : (Tryz.prog.info? 164).map (fun i => i.size) = some 379 := by kernel_rfl
/-- The stack's block: its count, its levels, its overrides, its isolate marks. -/
def stkCells (n : Nat) (ls : List Int) (os : List Cl) (is : List Bool) : List Value := .int .i64 n :: (nums .i8 ls ++ (clsU os ++ is.map Value.bool))
structure Stk (w : World) (b n : Nat) (ls : List Int) (os : List Cl) (is : List Bool) : Prop where
  row : Row w b 164 (stkCells n ls os is)
  l1 : ls.length = 126
  l2 : os.length = 126
  l3 : is.length = 126
theorem Stk.upd {S : List Nat} {w w' : World} {b n : Nat} {ls : List Int} {os : List Cl} {is : List Bool} (h : Stk w b n ls os is) (hu : Upd S w w') (hn : b ∉ S) : Stk w' b n ls os is := ⟨h.row.upd hu hn, h.l1, h.l2, h.l3⟩
theorem Stk.cnt {w : World} {b n : Nat} {ls : List Int} {os : List Cl} {is : List Bool} (h : Stk w b n ls os is) : w.cell? ⟨b, 0, none⟩ = some (.int .i64 n) := h.row.cell 0 (by simp [stkCells])
theorem Stk.lev {w : World} {b n : Nat} {ls : List Int} {os : List Cl} {is : List Bool} (h : Stk w b n ls os is) (q : Nat) (hq : q < 126) : w.cell? ⟨b, 1 + q, none⟩ = some (.int .i8 (nth ls q)) := by
  have hl : 1 + q < (stkCells n ls os is).length := by simp [stkCells, nums_length, h.l1, h.l2, h.l3, clsU]; omega
  rw [h.row.cell _ hl]
  have : (stkCells n ls os is)[1 + q]? = some (.int .i8 (nth ls q)) := by
    simp only [stkCells]
    rw [Nat.add_comm, List.getElem?_cons_succ, List.getElem?_append_left (by rw [nums_length, h.l1]; exact hq)]
    simp [nums, nth, h.l1, hq]
  rw [List.getElem?_eq_getElem hl] at this; exact this
theorem Stk.ovr {w : World} {b n : Nat} {ls : List Int} {os : List Cl} {is : List Bool} (h : Stk w b n ls os is) (q : Nat) (hq : q < 126) : w.cell? ⟨b, 127 + q, none⟩ = some (.int .u64 (cat os q).e2) := by
  have hl : 127 + q < (stkCells n ls os is).length := by simp [stkCells, nums_length, h.l1, h.l2, h.l3, clsU]; omega
  rw [h.row.cell _ hl]
  have : (stkCells n ls os is)[127 + q]? = some (.int .u64 (cat os q).e2) := by
    simp only [stkCells]
    rw [show 127 + q = (126 + q) + 1 by omega, List.getElem?_cons_succ, List.getElem?_append_right (by rw [nums_length, h.l1]; omega), nums_length, h.l1, Nat.add_sub_cancel_left, List.getElem?_append_left (by simp [clsU, h.l2, hq])]
    simp [clsU, cat, h.l2, hq]
  rw [List.getElem?_eq_getElem hl] at this; exact this
theorem Stk.iso {w : World} {b n : Nat} {ls : List Int} {os : List Cl} {is : List Bool} (h : Stk w b n ls os is) (q : Nat) (hq : q < 126) : w.cell? ⟨b, 253 + q, none⟩ = some (.bool (is.getD q false)) := by
  have hl : 253 + q < (stkCells n ls os is).length := by simp [stkCells, nums_length, h.l1, h.l2, h.l3, clsU]; omega
  rw [h.row.cell _ hl]
  have : (stkCells n ls os is)[253 + q]? = some (.bool (is.getD q false)) := by
    simp only [stkCells]
    rw [show 253 + q = (126 + (126 + q)) + 1 by omega, List.getElem?_cons_succ, List.getElem?_append_right (by rw [nums_length, h.l1]; omega), nums_length, h.l1, Nat.add_sub_cancel_left, List.getElem?_append_right (by simp [clsU, h.l2]), show (clsU os).length = 126 from by simp [clsU, h.l2], Nat.add_sub_cancel_left]
    simp [h.l3, hq]
  rw [List.getElem?_eq_getElem hl] at this; exact this

set_option maxHeartbeats 2000000 in
set_option maxRecDepth 100000 in
theorem lastLev_any (b n : Nat) (ls : List Int) (os : List Cl) (is : List Bool) (w : World) (h : Stk w b (n + 1) ls os is) (hn : n < 126) :
    Calls Tryz.prog 125 #[.pointer (some ⟨b, 0, none⟩)] w fun e w' => e = .returned (.int .i8 (nth ls n)) ∧ ∃ q, w' = w.drewN q := by
  have c0 := h.cnt
  have c1 := h.lev n hn
  have hi : ((n + 1 : Nat) : Int) - 1 = n := by omega
  rw [show ((n + 1 : Nat) : Int) = (n : Int) + 1 by omega] at c0
  go_enter Tryz.func125, Tryz.ntmps125
  go_wp2
  go_quiet (fail)
  go_wp2
  go_ret
  exact ⟨rfl, _, rfl⟩
set_option maxHeartbeats 2000000 in
set_option maxRecDepth 100000 in
theorem lastOvr_any (b n : Nat) (ls : List Int) (os : List Cl) (is : List Bool) (w : World) (h : Stk w b (n + 1) ls os is) (hn : n < 126) :
    Calls Tryz.prog 126 #[.pointer (some ⟨b, 0, none⟩)] w fun e w' => e = .returned (.int .u64 (cat os n).e2) ∧ ∃ q, w' = w.drewN q := by
  have c0 := h.cnt
  have c1 := h.ovr n hn
  have hi : ((n + 1 : Nat) : Int) - 1 = n := by omega
  rw [show ((n + 1 : Nat) : Int) = (n : Int) + 1 by omega] at c0
  go_enter Tryz.func126, Tryz.ntmps126
  go_wp2
  go_quiet (fail)
  go_wp2
  go_ret
  exact ⟨rfl, _, rfl⟩
set_option maxHeartbeats 2000000 in
set_option maxRecDepth 100000 in
theorem lastIso_any (b n : Nat) (ls : List Int) (os : List Cl) (is : List Bool) (w : World) (h : Stk w b (n + 1) ls os is) (hn : n < 126) :
    Calls Tryz.prog 127 #[.pointer (some ⟨b, 0, none⟩)] w fun e w' => e = .returned (.bool (is.getD n false)) ∧ ∃ q, w' = w.drewN q := by
  have c0 := h.cnt
  have c1 := h.iso n hn
  have hi : ((n + 1 : Nat) : Int) - 1 = n := by omega
  rw [show ((n + 1 : Nat) : Int) = (n : Int) + 1 by omega] at c0
  go_enter Tryz.func127, Tryz.ntmps127
  go_wp2
  go_quiet (fail)
  go_wp2
  go_ret
  exact ⟨rfl, _, rfl⟩
end Go.Proofs.YtjahmnenfknjgaaGreatDoor
namespace Go.Proofs.YtjahmnenfknjgaaGreatDoor
open Go.RowKit

theorem Stk.setCnt {w : World} {b n : Nat} {ls : List Int} {os : List Cl} {is : List Bool} (h : Stk w b n ls os is) (m : Nat) : Stk (w.setCell ⟨b, 0, none⟩ (.int .i64 m)) b m ls os is :=
  ⟨by have := h.row.set 0 (.int .i64 (m : Int)) (by simp [stkCells]); simpa [stkCells] using this, h.l1, h.l2, h.l3⟩

set_option maxHeartbeats 2000000 in
set_option maxRecDepth 100000 in
theorem stkPop_any (b n : Nat) (ls : List Int) (os : List Cl) (is : List Bool) (w : World) (h : Stk w b (n + 1) ls os is) (hn : n < 126) :
    Calls Tryz.prog 128 #[.pointer (some ⟨b, 0, none⟩)] w fun e w' => e = .returned (.tuple #[]) ∧ w' = w.setCell ⟨b, 0, none⟩ (.int .i64 n) := by
  have c0 := h.cnt
  have f0 := h.row.free 0
  rw [show ((n + 1 : Nat) : Int) = (n : Int) + 1 by omega] at c0
  go_enter Tryz.func128, Tryz.ntmps128
  go_wp2
  go_end0
  exact ⟨rfl, rfl⟩
theorem Stk.setLev {w : World} {b n : Nat} {ls : List Int} {os : List Cl} {is : List Bool} (h : Stk w b n ls os is) (q : Nat) (hq : q < 126) (x : Int) : Stk (w.setCell ⟨b, 1 + q, none⟩ (.int .i8 x)) b n (ls.set q x) os is :=
  ⟨by
    have := h.row.set (1 + q) (.int .i8 x) (by simp [stkCells, nums_length, h.l1, h.l2, h.l3, clsU]; omega)
    have e : (stkCells n ls os is).set (1 + q) (.int .i8 x) = stkCells n (ls.set q x) os is := by
      simp only [stkCells]
      rw [Nat.add_comm, List.set_cons_succ, List.set_append_left _ _ (by rw [nums_length, h.l1]; exact hq)]
      simp [nums, List.map_set]
    rw [e] at this; exact this, by simp [h.l1], h.l2, h.l3⟩
theorem Stk.setOvr {w : World} {b n : Nat} {ls : List Int} {os : List Cl} {is : List Bool} (h : Stk w b n ls os is) (q : Nat) (hq : q < 126) (x : Cl) : Stk (w.setCell ⟨b, 127 + q, none⟩ (.int .u64 x.e2)) b n ls (os.set q x) is :=
  ⟨by
    have := h.row.set (127 + q) (.int .u64 x.e2) (by simp [stkCells, nums_length, h.l1, h.l2, h.l3, clsU]; omega)
    have e : (stkCells n ls os is).set (127 + q) (.int .u64 x.e2) = stkCells n ls (os.set q x) is := by
      simp only [stkCells]
      rw [show 127 + q = (126 + q) + 1 by omega, List.set_cons_succ, List.set_append_right _ _ (by rw [nums_length, h.l1]; omega), nums_length, h.l1, Nat.add_sub_cancel_left, List.set_append_left _ _ (by simp [clsU, h.l2, hq])]
      simp [clsU, List.map_set]
    rw [e] at this; exact this, h.l1, by simp [h.l2], h.l3⟩
theorem Stk.setIso {w : World} {b n : Nat} {ls : List Int} {os : List Cl} {is : List Bool} (h : Stk w b n ls os is) (q : Nat) (hq : q < 126) (x : Bool) : Stk (w.setCell ⟨b, 253 + q, none⟩ (.bool x)) b n ls os (is.set q x) :=
  ⟨by
    have := h.row.set (253 + q) (.bool x) (by simp [stkCells, nums_length, h.l1, h.l2, h.l3, clsU]; omega)
    have e : (stkCells n ls os is).set (253 + q) (.bool x) = stkCells n ls os (is.set q x) := by
      simp only [stkCells]
      rw [show 253 + q = (126 + (126 + q)) + 1 by omega, List.set_cons_succ, List.set_append_right _ _ (by rw [nums_length, h.l1]; omega), nums_length, h.l1, Nat.add_sub_cancel_left, List.set_append_right _ _ (by simp [clsU, h.l2]), show (clsU os).length = 126 from by simp [clsU, h.l2], Nat.add_sub_cancel_left]
      simp [List.map_set]
    rw [e] at this; exact this, h.l1, h.l2, by simp [h.l3]⟩
end Go.Proofs.YtjahmnenfknjgaaGreatDoor
namespace Go.Proofs.YtjahmnenfknjgaaGreatDoor
open Go.RowKit

set_option maxHeartbeats 4000000 in
set_option maxRecDepth 100000 in
theorem stkPush_any (b n : Nat) (ls : List Int) (os : List Cl) (is : List Bool) (lv : Int) (ov : Cl) (iso : Bool) (w : World) (h : Stk w b n ls os is) (hn : n < 126) :
    Calls Tryz.prog 124 #[.pointer (some ⟨b, 0, none⟩), .int .i8 lv, .int .u64 ov.e2, .bool iso] w fun e w' => e = .returned (.tuple #[]) ∧ Stk w' b (n + 1) (ls.set n lv) (os.set n ov) (is.set n iso) ∧ Upd [b] w w' := by
  have c0 := h.cnt
  have c1 := h.lev n hn
  have c2 := h.ovr n hn
  have c3 := h.iso n hn
  have f0 := h.row.free 0
  have f1 := h.row.free (1 + n)
  have f2 := h.row.free (127 + n)
  have f3 := h.row.free (253 + n)
  go_enter Tryz.func124, Tryz.ntmps124
  go_wp2
  go_region
  all_goals (try go_wp2)
  all_goals (try go_region)
  all_goals (try go_wp2)
  all_goals (try go_region)
  all_goals (try go_wp2)
  go_end0
  refine ⟨rfl, ?_, ?_⟩
  · have h4 := (((h.setLev n hn lv).setOvr n hn ov).setIso n hn iso).setCnt (n + 1)
    exact ⟨by have := h4.row.drew.drew.drew; simpa using this, h4.l1, h4.l2, h4.l3⟩
  · exact ((((((Upd.refl [b] w).setCell (p := ⟨b, 1 + n, none⟩) (.inl (by simp)) _).setCell (p := ⟨b, 127 + n, none⟩) (.inl (by simp)) _).setCell (p := ⟨b, 253 + n, none⟩) (.inl (by simp)) _).setCell (p := ⟨b, 0, none⟩) (.inl (by simp)) _).drew).drew.drew
end Go.Proofs.YtjahmnenfknjgaaGreatDoor
namespace Go.Proofs.YtjahmnenfknjgaaGreatDoor
open Go.RowKit

def parCells (i pt pv : Value) (lv : Int) (t l m s : Value) : List Value := [i, pt, pv, .int .i8 lv, t, l, m, s]
/-- The paragraph at block b. -/
def Par (w : World) (b : Nat) (i pt pv : Value) (lv : Int) (t l m s : Value) : Prop := Row w b 115 (parCells i pt pv lv t l m s)
structure ParC (w : World) (b : Nat) (i pt pv : Value) (lv : Int) (t l m s : Value) : Prop where
  c0 : w.cell? ⟨b, 0, none⟩ = some i
  c1 : w.cell? ⟨b, 1, none⟩ = some pt
  c2 : w.cell? ⟨b, 2, none⟩ = some pv
  c3 : w.cell? ⟨b, 3, none⟩ = some (.int .i8 lv)
  c4 : w.cell? ⟨b, 4, none⟩ = some t
  c5 : w.cell? ⟨b, 5, none⟩ = some l
  c6 : w.cell? ⟨b, 6, none⟩ = some m
  c7 : w.cell? ⟨b, 7, none⟩ = some s
theorem Par.cells {w : World} {b : Nat} {i pt pv : Value} {lv : Int} {t l m s : Value} (h : Par w b i pt pv lv t l m s) : ParC w b i pt pv lv t l m s :=
  ⟨h.cell 0 (by simp [parCells]), h.cell 1 (by simp [parCells]), h.cell 2 (by simp [parCells]), h.cell 3 (by simp [parCells]), h.cell 4 (by simp [parCells]), h.cell 5 (by simp [parCells]), h.cell 6 (by simp [parCells]), h.cell 7 (by simp [parCells])⟩
theorem Par.upd {S : List Nat} {w w' : World} {b : Nat} {i pt pv : Value} {lv : Int} {t l m s : Value} (h : Par w b i pt pv lv t l m s) (hu : Upd S w w') (hn : b ∉ S) : Par w' b i pt pv lv t l m s := Row.upd h hu hn

set_option maxRecDepth 100000 in
theorem len_any (b n : Nat) (A : Option Addr) (c : Nat) (w : World) (h : w.cell? ⟨b, 0, none⟩ = some (.slice A n c)) :
    Calls Tryz.prog 102 #[.pointer (some ⟨b, 0, none⟩)] w fun e w' => e = .returned (.int .i64 n) ∧ w = w' := by
  go_enter Tryz.func102, Tryz.ntmps102
  go_wp2
  go_ret
  exact ⟨rfl, rfl⟩

set_option maxHeartbeats 2000000 in
set_option maxRecDepth 100000 in
theorem setLevels_any (g n c : Nat) (ls : List Int) (x : Int) (w : World) (h : Row w g 112 (nums .i8 ls)) (hn : ls.length = n) (hm : n ≤ 2147483647) :
    Calls Tryz.prog 103 #[.slice (some ⟨g, 0, none⟩) n c, .int .i8 x] w fun e w' => e = .returned (.tuple #[]) ∧ Row w' g 112 (nums .i8 (List.replicate n x)) ∧ Upd [g] w w' := by
  go_enter Tryz.func103, Tryz.ntmps103
  go_wp2
  go_loopg [7] (n + 1) (fun k i wr => ∃ (j : Nat), i = .int .i64 j ∧ j ≤ n ∧ Row wr g 112 (nums .i8 (List.replicate j x ++ ls.drop j)) ∧ Upd [g] w wr ∧ Hid (n + 1 - j ≤ k))
  case atStart => exact ⟨0, rfl, by omega, by simpa using h, Upd.refl _ _, Nat.le_refl _⟩
  case round =>
    obtain ⟨j, rfl, hj, hr, hu, hk⟩ := hrel
    by_cases hlt : j < n
    · have hc := hr.num j (by simp; omega)
      have hf := hr.free j
      have HS : Hid ((List.replicate j x ++ ls.drop j).set j x = List.replicate (j + 1) x ++ ls.drop (j + 1)) := by
        show _ = _
        rw [List.set_append_right _ _ (by simp), List.length_replicate, Nat.sub_self, List.drop_eq_getElem_cons (by omega), List.set_cons_zero, List.replicate_succ']
        simp
      go_wp2
      go_roundg (n + 1 - (j + 1))
      case measure => have := hk.out; omega
      case rel => exact ⟨j + 1, by go_num, by omega, by rw [← HS.out]; exact hr.setNum j x (by simp; omega), hu.setCell (p := ⟨g, j, none⟩) (.inl (by simp)) _, Nat.le_refl _⟩
    · obtain rfl : j = n := by omega
      rw [List.drop_eq_nil_of_le (by omega), List.append_nil] at hr
      go_wp2
      go_end0
      exact ⟨rfl, hr, hu⟩
end Go.Proofs.YtjahmnenfknjgaaGreatDoor
