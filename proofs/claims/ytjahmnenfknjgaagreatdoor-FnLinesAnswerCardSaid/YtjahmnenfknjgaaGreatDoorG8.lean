/- The package's determineMatchingIsolates, by its contract. -/
import Derived.Test.YtjahmnenfknjgaaGreatDoorG7
import Derived.Test.YtjahmnenfknjgaaGreatDoorG6
import Derived.Test.YtjahmnenfknjgaaGreatDoorG2
import Derived.Deep.RegionHeld3
import Derived.WalkMore
set_option linter.unusedVariables false
set_option linter.unusedSimpArgs false
namespace Go.Proofs.YtjahmnenfknjgaaGreatDoor
open Go.RowKit

theorem Par.set6 {w : World} {b : Nat} {i pt pv : Value} {lv : Int} {t l m s : Value} (h : Par w b i pt pv lv t l m s) (v : Value) : Par (w.setCell ⟨b, 6, none⟩ v) b i pt pv lv t l v s := Row.set h 6 v (by simp [parCells])
theorem Par.set7 {w : World} {b : Nat} {i pt pv : Value} {lv : Int} {t l m s : Value} (h : Par w b i pt pv lv t l m s) (v : Value) : Par (w.setCell ⟨b, 7, none⟩ v) b i pt pv lv t l m v := Row.set h 7 v (by simp [parCells])
theorem Par.free {w : World} {b : Nat} {i pt pv : Value} {lv : Int} {t l m s : Value} (h : Par w b i pt pv lv t l m s) (q : Nat) : w.frozen? ⟨b, q, none⟩ = false := Row.free h q

theorem in_row {l : List Cl} {n : Nat} {c : Cl} {w : World} {g : Nat} (b : Bool) (h : Row w g 77 (clsU l)) (hn : l.length = n) (hb : l.contains c = b) (hm : n ≤ 2147483647) (k : Nat) :
    Calls Tryz.prog 106 #[.int .u64 c.e2, .slice (some ⟨g, 0, none⟩) n k] w fun e w' => e = .returned (.bool b) ∧ w = w' := by
  subst hn hb
  exact in_any _ k c l w (Rd.of_row h) hm
theorem in_new {l : List Cl} {n : Nat} {c : Cl} {w : World} {g : Nat} {vs : Array Value} (b : Bool) (hg : g = w.heap.size) (hv : vs = (clsU l).toArray) (hn : l.length = n) (hb : l.contains c = b) (hm : n ≤ 2147483647) (k : Nat) :
    Calls Tryz.prog 106 #[.int .u64 c.e2, .slice (some ⟨g, 0, none⟩) n k] (w.alloc (.cells vs 77)) fun e w' => e = .returned (.bool b) ∧ w.alloc (.cells vs 77) = w' := by
  subst hg hv
  exact in_row b (Row.new w 77 (clsU l)) hn hb hm k
theorem cellA {w : World} {p : Addr} {v : Value} (h : w.cell? p = some v) (o : Obj) : (w.alloc o).cell? p = some v := ((Upd.refl [] w).alloc o).cell h (by simp)
theorem freeA {w : World} {g : Nat} {ty : TypeId} {vs : List Value} (h : Row w g ty vs) (j : Nat) (o : Obj) : (w.alloc o).frozen? ⟨g, j, none⟩ = false := (h.alloc o).free j
theorem init_in (c : Cl) : [Cl.LRI, .RLI, .FSI].contains c = c.isInit := by cases c <;> rfl

set_option maxHeartbeats 8000000 in
set_option maxRecDepth 100000 in
theorem isolates_any (b : Nat) (Ai : Option Addr) (ci : Nat) (pt pv : Value) (plv : Int) (gt ct : Nat) (l m s : Value) (cs : List Cl) (w : World)
    (h : Par w b (.slice Ai cs.length ci) pt pv plv (.slice (some ⟨gt, 0, none⟩) cs.length ct) l m s) (ht : Row w gt 77 (clsU cs)) (hm : cs.length ≤ 2147483647) :
    Calls Tryz.prog 101 #[.pointer (some ⟨b, 0, none⟩)] w fun e w' => e = .returned (.tuple #[]) ∧ ∃ gm gs, w.heap.size ≤ gm ∧ w.heap.size ≤ gs ∧ gm ≠ gs ∧
      Par w' b (.slice Ai cs.length ci) pt pv plv (.slice (some ⟨gt, 0, none⟩) cs.length ct) l (.slice (some ⟨gm, 0, none⟩) cs.length cs.length) (.slice (some ⟨gs, 0, none⟩) cs.length cs.length) ∧
      Row w' gm 3 (nums .i64 (mt cs)) ∧ Row w' gs 3 (nums .i64 (msI cs)) ∧ Upd [b] w w' := by
  obtain ⟨i0, hi', hz0, hz1, hz2⟩ := info_parts info3
  obtain ⟨c0, c1, c2, c3, c4, c5, c6, c7⟩ := h.cells
  have f6 := h.free 6
  have f7 := h.free 7
  have hbw := Row.lt h
  have hbt := Row.ne_type h ht (by decide)
  have htw := ht.lt
  go_enter Tryz.func101, Tryz.ntmps101
  go_wp2_with (first
    | (go_at_call 102; refine (len_any b cs.length Ai ci _ (by assumption)).mono ?_; rintro e w' ⟨rfl, rfl⟩)
    | (at_make; refine wpList_make_full _ rfl _ _ 22 rfl w.heap.size 3 i0 (.int .i64 0) 1 Tryz.underlying22 hi' hz0 hz1 _ _ _ _ cs.length rfl rfl rfl rfl ?b1 ?b2 ?b3 ?_))
  case b1 => rw [hz2]; omega
  case b2 => unfold maxLen; omega
  case b3 => exact Nat.le_refl _
  intro w1 hown1 hgrow1
  rw [made_nums] at hown1
  have hO1 := Row.of_owns hown1
  have hu1 : Upd [b] w w1 := (Upd.refl _ _).grown0 hgrow1
  have hP1 : Par w1 b _ _ _ _ _ _ _ _ := h.upd ((Upd.refl [] w).grown0 hgrow1) (by simp)
  have hlt1 := hO1.lt
  have hP2 := hP1.set6 (.slice (some ⟨w.heap.size, 0, none⟩) cs.length cs.length)
  have hO2 := hO1.other (p := ⟨b, 6, none⟩) (by simp only []; omega) (.slice (some ⟨w.heap.size, 0, none⟩) cs.length cs.length)
  have hu2 := hu1.setCell (p := ⟨b, 6, none⟩) (.inl (by simp)) (.slice (some ⟨w.heap.size, 0, none⟩) cs.length cs.length)
  clear hown1 hgrow1 hu1 hO1 c0 c1 c2 c3 c4 c5 c6 c7 f6 f7
  obtain ⟨c0, c1, c2, c3, c4, c5, c6, c7⟩ := hP1.cells
  have f6 := hP1.free 6
  have C0 := Lib.hid hP2.cells.c0
  have HX : Hid (w1.heap.size = (w1.setCell ⟨b, 6, none⟩ (.slice (some ⟨w.heap.size, 0, none⟩) cs.length cs.length)).heap.size) := by show _ = _; simp
  have hlt2 : w.heap.size < (w1.setCell ⟨b, 6, none⟩ (.slice (some ⟨w.heap.size, 0, none⟩) cs.length cs.length)).heap.size := by rw [← HX.out]; exact hlt1
  go_wp2_with (first
    | (go_at_call 102; refine (len_any b cs.length Ai ci _ C0.out).mono ?_; rintro e w' ⟨rfl, rfl⟩)
    | (at_make; refine wpList_make_full _ rfl _ _ 22 rfl w1.heap.size 3 i0 (.int .i64 0) 1 Tryz.underlying22 hi' hz0 hz1 _ _ _ _ cs.length rfl rfl rfl rfl ?b1 ?b2 ?b3 ?_))
  case b1 => rw [hz2]; omega
  case b2 => unfold maxLen; omega
  case b3 => simp
  generalize w1.setCell ⟨b, 6, none⟩ (.slice (some ⟨w.heap.size, 0, none⟩) cs.length cs.length) = w2 at *
  intro w3 hown3 hgrow3
  rw [made_nums] at hown3
  have hO3 := Row.of_owns hown3
  have hG3 := hO2.grown hgrow3 (by simp)
  have hu3 := hu2.grown0 hgrow3
  have hlt3 := hO3.lt
  have hP3 : Par w3 b _ _ _ _ _ _ _ _ := hP2.upd ((Upd.refl [] w2).grown0 hgrow3) (by simp)
  have hlt4 : w.heap.size < w3.heap.size := by omega
  generalize hgs : w1.heap.size = gs at *
  generalize hgm : w.heap.size = gm at *
  clear hown3 hgrow3 C0 c0 c1 c2 c3 c4 c5 c6 c7 f6
  obtain ⟨c0, c1, c2, c3, c4, c5, c6, c7⟩ := hP3.cells
  have f7 := hP3.free 7
  have hP4 := hP3.set7 (.slice (some ⟨gs, 0, none⟩) cs.length cs.length)
  have hG4 := hG3.other (p := ⟨b, 7, none⟩) (by simp only []; omega) (.slice (some ⟨gs, 0, none⟩) cs.length cs.length)
  have hS4 := hO3.other (p := ⟨b, 7, none⟩) (by simp only []; omega) (.slice (some ⟨gs, 0, none⟩) cs.length cs.length)
  have hu4 := hu3.setCell (p := ⟨b, 7, none⟩) (.inl (by simp)) (.slice (some ⟨gs, 0, none⟩) cs.length cs.length)
  have hD4 := hP4.cells.c7
  have hgwt : gt < gm := by omega
  have hbm : b < gm := by omega
  have hbs : b < gs := by omega
  have n1 : b ≠ gm := by omega
  have n2 : gm ≠ b := by omega
  have n3 : gt ≠ gm := by omega
  have n4 : gm ≠ gt := by omega
  have n5 : gs ≠ gm := by omega
  have n6 : gm ≠ gs := by omega
  have n7 : b ≠ gs := by omega
  have n8 : gs ≠ b := by omega
  have n9 : gt ≠ gs := by omega
  have hT4 : Row (w3.setCell ⟨b, 7, none⟩ (.slice (some ⟨gs, 0, none⟩) cs.length cs.length)) gt 77 (clsU cs) := by
    refine ht.upd (S := [b]) hu4 ?_
    simp; omega
  have HN2 : Hid (∀ wx : World, Par wx b (.slice Ai cs.length ci) pt pv plv (.slice (some ⟨gt, 0, none⟩) cs.length ct) l (.slice (some ⟨gm, 0, none⟩) cs.length cs.length) (.slice (some ⟨gs, 0, none⟩) cs.length cs.length) → True) := fun _ _ => trivial
  clear hu3 hP3 hG3 hO3 hu2 hO2 hP2 hP1
  go_wp2
  go_loopg [25] (cs.length + 1) (fun k i wr => ∃ (j : Nat), i = .int .i64 j ∧ j ≤ cs.length ∧ Row wr gs 3 (nums .i64 (List.replicate j (-1) ++ (List.replicate cs.length (0 : Int)).drop j)) ∧ Upd [gs] (w3.setCell ⟨b, 7, none⟩ (.slice (some ⟨gs, 0, none⟩) cs.length cs.length)) wr ∧ Hid (cs.length + 1 - j ≤ k))
  case atStart => exact ⟨0, rfl, by omega, by simpa using hS4, Upd.refl _ _, Nat.le_refl _⟩
  case round =>
    obtain ⟨j, rfl, hj, hr, hv, hk⟩ := hrel
    have hP5 := Par.upd hP4 hv (by simp; omega)
    have d7 := hP5.cells.c7
    by_cases hlt : j < cs.length
    · have hc := hr.num j (by simp; omega)
      have hf := hr.free j
      have HS : Hid ((List.replicate j (-1) ++ (List.replicate cs.length (0 : Int)).drop j).set j (-1) = List.replicate (j + 1) (-1) ++ (List.replicate cs.length (0 : Int)).drop (j + 1)) := by
        show _ = _
        rw [List.set_append_right _ _ (by simp), List.length_replicate, Nat.sub_self, List.drop_eq_getElem_cons (by simp; omega), List.set_cons_zero, List.replicate_succ']
        simp
      go_wp2
      go_roundg (cs.length + 1 - (j + 1))
      case measure => have := hk.out; omega
      case rel => exact ⟨j + 1, by go_num, by omega, by rw [← HS.out]; exact hr.setNum j (-1) (by simp; omega), hv.setCell (p := ⟨gs, j, none⟩) (.inl (by simp)) _, Nat.le_refl _⟩
    · obtain rfl : j = cs.length := by omega
      rw [List.drop_eq_nil_of_le (by simp), List.append_nil] at hr
      have hr : Row wr gs 3 (nums .i64 (msK cs 0)) := hr
      have d6 := hP5.cells.c6
      have hG5 := hG4.upd hv (by simp; omega)
      have hT5 := hT4.upd hv (by simp; omega)
      have hu5 : Upd [b] w wr := hu4.step hv (fun t ht => .inr (by simp at ht; omega))
      clear hv hT4 hG4 hS4 hP4 hu4 hD4 c0 c1 c2 c3 c4 c5 c6 c7 f7
      rw [← pmK_zero] at hG5
      go_wp2
      go_loopg [40] (cs.length + 1) (fun k i wr => ∃ (j : Nat), i = .int .i64 j ∧ j ≤ cs.length ∧ Row wr gm 3 (nums .i64 (pmK cs j)) ∧ Row wr gs 3 (nums .i64 (msK cs j)) ∧ Par wr b (.slice Ai cs.length ci) pt pv plv (.slice (some ⟨gt, 0, none⟩) cs.length ct) l (.slice (some ⟨gm, 0, none⟩) cs.length cs.length) (.slice (some ⟨gs, 0, none⟩) cs.length cs.length) ∧ Row wr gt 77 (clsU cs) ∧ Upd [b] w wr ∧ Hid (cs.length + 1 - j ≤ k))
      case atStart => exact ⟨0, rfl, by omega, hG5, hr, hP5, hT5, hu5, Nat.le_refl _⟩
      case round =>
        obtain ⟨j, rfl, hj, hG, hS, hP, hT, hu, hk⟩ := hrel
        by_cases hlt : j < cs.length
        · obtain ⟨c0, c1, c2, c3, c4, c5, c6, c7⟩ := hP.cells
          have hgc := hG.num j (by rw [pmK_length]; exact hlt)
          have hgf := hG.free j
          have htc := hT.cls j hlt
          have hGm := hG.setNum j (-1) (by rw [pmK_length]; exact hlt)
          have hPm := Par.upd hP ((Upd.refl [gm] wr).setCell (p := ⟨gm, j, none⟩) (.inl (by simp)) (.int .i64 (-1))) (by simp; omega)
          have hSm := hS.other (p := ⟨gm, j, none⟩) (by simp only []; omega) (.int .i64 (-1))
          have hTm := hT.other (p := ⟨gm, j, none⟩) (by simp only []; omega) (.int .i64 (-1))
          have hum := hu.setCell (p := ⟨gm, j, none⟩) (.inr (by simp only []; omega)) (.int .i64 (-1))
          clear hP hG hS hT hu
          by_cases hi : (cat cs j).isInit = true
          · have B1 : Hid ([Cl.LRI, .RLI, .FSI].contains (cat cs j) = true) := (init_in _).trans hi
            have HI := Lib.hid hi
            clear hi
            go_wp2_with (go_at_call 106; refine (in_new (c := cat cs j) (l := [.LRI, .RLI, .FSI]) true (by simp) (by rfl) rfl B1.out (by decide) _).mono ?_; rintro e w' ⟨rfl, rfl⟩)
            go_loopg [5, 6] (cs.length + 1 - (j + 1)) (fun k d i wr => ∃ (d' q : Nat), d = .int .i64 d' ∧ i = .int .i64 q ∧ j + 1 ≤ q ∧ q ≤ cs.length ∧ 1 ≤ d' ∧ d' ≤ q ∧ Hid (scan cs d' q = mOf cs j) ∧
               Row wr gm 3 (nums .i64 ((pmK cs j).set j (-1))) ∧ Row wr gs 3 (nums .i64 (msK cs j)) ∧ Par wr b (.slice Ai cs.length ci) pt pv plv (.slice (some ⟨gt, 0, none⟩) cs.length ct) l (.slice (some ⟨gm, 0, none⟩) cs.length cs.length) (.slice (some ⟨gs, 0, none⟩) cs.length cs.length) ∧ Row wr gt 77 (clsU cs) ∧ Upd [b] w wr ∧ Hid (cs.length + 1 - q ≤ k))
            case atStart => exact ⟨1, j + 1, rfl, by go_num, by omega, by omega, by omega, by omega, scan_start cs j, hGm.alloc _, hSm.alloc _, Row.alloc hPm _, hTm.alloc _, hum.alloc _, Nat.le_refl _⟩
            case round =>
              obtain ⟨d, q, rfl, rfl, hq1, hq2, hd1, hd2, HS, hG, hS, hP, hT, hu, hk2⟩ := hrel
              clear hGm hPm hSm hTm hum c0 c1 c2 c3 c4 c5 c6 c7 hgc hgf htc
              obtain ⟨c0, c1, c2, c3, c4, c5, c6, c7⟩ := hP.cells
              by_cases hlq : q < cs.length
              · have htc := hT.cls q hlq
                by_cases hqi : (cat cs q).isInit = true
                · have B2 : Hid ([Cl.LRI, .RLI, .FSI].contains (cat cs q) = true) := (init_in _).trans hqi
                  have HS2 : Hid (scan cs (d + 1) (q + 1) = mOf cs j) := (scan_init hlq hd1 hqi).symm.trans HS.out
                  clear hqi
                  go_wp2_with (first
                    | (go_at_call 102; refine (len_any b cs.length Ai ci _ (by assumption)).mono ?_; rintro e w' ⟨rfl, rfl⟩)
                    | (go_at_call 106; refine (in_new (c := cat cs q) (l := [.LRI, .RLI, .FSI]) true (by simp) (by rfl) rfl B2.out (by decide) _).mono ?_; rintro e w' ⟨rfl, rfl⟩))
                  go_roundg (cs.length + 1 - (q + 1))
                  case measure => have := hk2.out; omega
                  case rel => exact ⟨d + 1, q + 1, by go_num, by go_num, by omega, by omega, by omega, by omega, HS2, hG.alloc _, hS.alloc _, Row.alloc hP _, hT.alloc _, hu.alloc _, Nat.le_refl _⟩
                have B2 : Hid ([Cl.LRI, .RLI, .FSI].contains (cat cs q) = false) := (init_in _).trans (by simpa using hqi)
                have hbq : ((cat cs q).e2 == 24) = decide (cat cs q = .PDI) := Cl.e2_beq (cat cs q) .PDI
                by_cases hqp : cat cs q = .PDI
                · rw [decide_eq_true hqp] at hbq
                  by_cases hd : d = 1
                  · subst hd
                    have HM : Hid (mOf cs j = q) := by show _ = _; rw [← HS.out, scan_found hlq hqp]
                    have hgc := hG.num j (by simp [pmK]; omega)
                    have hgf := hG.free j
                    have hsc := hS.num q (by rw [msK_length]; exact hlq)
                    have hsf := hS.free q
                    have hqn : ((q : Int) == -1) = false := by simp
                    have HG2 : Hid (((pmK cs j).set j (-1)).set j (q : Int) = pmK cs (j + 1)) := by
                      show _ = _
                      rw [List.set_set]; exact pmK_set hlt (by rw [mAt_init HI.out, HM.out])
                    have HS2 : Hid ((msK cs j).set q (j : Int) = msK cs (j + 1)) := by
                      show _ = _
                      rw [msK, if_pos ⟨HI.out, by rw [HM.out]; exact hlq⟩, HM.out]
                    have hGn := (hG.alloc (.cells (clsU [.LRI, .RLI, .FSI]).toArray 77)).setNum j q (by simp [pmK]; omega)
                    have hPn := Par.upd hP ((((Upd.refl [gm, gs] wr).alloc (.cells (clsU [.LRI, .RLI, .FSI]).toArray 77)).setCell (p := ⟨gm, j, none⟩) (.inl (by simp)) (.int .i64 q)).setCell (p := ⟨gs, q, none⟩) (.inl (by simp)) (.int .i64 j)) (by simp; omega)
                    have e0 := cellA c0 (.cells #[.int .u64 21, .int .u64 22, .int .u64 23] 77)
                    have e6 := cellA c6 (.cells #[.int .u64 21, .int .u64 22, .int .u64 23] 77)
                    have e7 := cellA c7 (.cells #[.int .u64 21, .int .u64 22, .int .u64 23] 77)
                    have eg := cellA hgc (.cells #[.int .u64 21, .int .u64 22, .int .u64 23] 77)
                    have es := cellA hsc (.cells #[.int .u64 21, .int .u64 22, .int .u64 23] 77)
                    have ef1 := freeA hG j (.cells #[.int .u64 21, .int .u64 22, .int .u64 23] 77)
                    have ef2 := freeA hS q (.cells #[.int .u64 21, .int .u64 22, .int .u64 23] 77)
                    have z1 : b ≠ wr.heap.size := Nat.ne_of_lt (Row.lt hP)
                    have z2 : gm ≠ wr.heap.size := Nat.ne_of_lt hG.lt
                    have z3 : gs ≠ wr.heap.size := Nat.ne_of_lt hS.lt
                    clear hqp hqi
                    go_wp2_with (first
                      | (go_at_call 102; refine (len_any b cs.length Ai ci _ (by assumption)).mono ?_; rintro e w' ⟨rfl, rfl⟩)
                      | (go_at_call 106; refine (in_new (c := cat cs q) (l := [.LRI, .RLI, .FSI]) false (by simp) (by rfl) rfl B2.out (by decide) _).mono ?_; rintro e w' ⟨rfl, rfl⟩))
                    go_roundg (cs.length + 1 - (j + 1))
                    case measure => have := hk.out; omega
                    case rel => exact ⟨j + 1, by go_num, by omega, by rw [← HG2.out]; exact hGn.other (p := ⟨gs, q, none⟩) (by simp only []; omega) _, by rw [← HS2.out]; exact ((hS.alloc _).other (p := ⟨gm, j, none⟩) (by simp only []; omega) _).setNum q _ (by rw [msK_length]; exact hlq), hPn, ((hT.alloc _).other (p := ⟨gm, j, none⟩) (by simp only []; omega) _).other (p := ⟨gs, q, none⟩) (by simp only []; omega) _, ((hu.alloc _).setCell (p := ⟨gm, j, none⟩) (.inr (by simp only []; omega)) _).setCell (p := ⟨gs, q, none⟩) (.inr (by simp only []; omega)) _, Nat.le_refl _⟩
                  · have HS2 : Hid (scan cs (d - 1) (q + 1) = mOf cs j) := (scan_pdi hlq (by omega) hqp).symm.trans HS.out
                    have hdn : ((d : Int) - 1 == 0) = false := by simp; omega
                    clear hqp hqi
                    go_wp2_with (first
                      | (go_at_call 102; refine (len_any b cs.length Ai ci _ (by assumption)).mono ?_; rintro e w' ⟨rfl, rfl⟩)
                      | (go_at_call 106; refine (in_new (c := cat cs q) (l := [.LRI, .RLI, .FSI]) false (by simp) (by rfl) rfl B2.out (by decide) _).mono ?_; rintro e w' ⟨rfl, rfl⟩))
                    go_roundg (cs.length + 1 - (q + 1))
                    case measure => have := hk2.out; omega
                    case rel => exact ⟨d - 1, q + 1, by go_num, by go_num, by omega, by omega, by omega, by omega, HS2, hG.alloc _, hS.alloc _, Row.alloc hP _, hT.alloc _, hu.alloc _, Nat.le_refl _⟩
                · rw [decide_eq_false hqp] at hbq
                  have HS2 : Hid (scan cs d (q + 1) = mOf cs j) := (scan_other hlq (by simpa using hqi) hqp).symm.trans HS.out
                  clear hqp hqi
                  go_wp2_with (first
                    | (go_at_call 102; refine (len_any b cs.length Ai ci _ (by assumption)).mono ?_; rintro e w' ⟨rfl, rfl⟩)
                    | (go_at_call 106; refine (in_new (c := cat cs q) (l := [.LRI, .RLI, .FSI]) false (by simp) (by rfl) rfl B2.out (by decide) _).mono ?_; rintro e w' ⟨rfl, rfl⟩))
                  go_roundg (cs.length + 1 - (q + 1))
                  case measure => have := hk2.out; omega
                  case rel => exact ⟨d, q + 1, by go_num, by go_num, by omega, by omega, by omega, by omega, HS2, hG.alloc _, hS.alloc _, Row.alloc hP _, hT.alloc _, hu.alloc _, Nat.le_refl _⟩
              · obtain rfl : q = cs.length := by omega
                have hgc := hG.num j (by simp [pmK]; omega)
                have hgf := hG.free j
                rw [nth_set_self (by rw [pmK_length]; exact hlt)] at hgc
                have HM : Hid (mOf cs j = cs.length) := by show _ = _; rw [← HS.out, scan_end (Nat.le_refl _)]
                have HG2 : Hid (((pmK cs j).set j (-1)).set j (cs.length : Int) = pmK cs (j + 1)) := by
                  show _ = _
                  rw [List.set_set]; exact pmK_set hlt (by rw [mAt_init HI.out, HM.out])
                have HS2 : Hid (msK cs j = msK cs (j + 1)) := by
                  show _ = _
                  rw [msK, if_neg (by rw [HM.out]; omega)]
                have hPn := Par.upd hP ((Upd.refl [gm] wr).setCell (p := ⟨gm, j, none⟩) (.inl (by simp)) (.int .i64 cs.length)) (by simp; omega)
                go_wp2_with (go_at_call 102; refine (len_any b cs.length Ai ci _ (by assumption)).mono ?_; rintro e w' ⟨rfl, rfl⟩)
                go_region_held3 (fun w' => w'.cell? ⟨b, 0, none⟩ = some (.slice Ai cs.length ci) ∧ w'.cell? ⟨b, 6, none⟩ = some (.slice (some ⟨gm, 0, none⟩) cs.length cs.length))
                  (first | exact ⟨c0, c6⟩ | exact ⟨hPn.cells.c0, hPn.cells.c6⟩)
                  (first | (go_at_call 102; refine (len_any b cs.length Ai ci _ (by assumption)).mono ?_; rintro e w' ⟨rfl, rfl⟩))
                go_wp2
                go_roundg (cs.length + 1 - (j + 1))
                case measure => have := hk.out; omega
                case rel => exact ⟨j + 1, by go_num, by omega, by rw [← HG2.out]; exact hG.setNum j _ (by simp [pmK]; omega), by rw [← HS2.out]; exact hS.other (p := ⟨gm, j, none⟩) (by simp only []; omega) _, hPn, hT.other (p := ⟨gm, j, none⟩) (by simp only []; omega) _, (hu.setCell (p := ⟨gm, j, none⟩) (.inr (by simp only []; omega)) _).drew, Nat.le_refl _⟩
          · have B1 : Hid ([Cl.LRI, .RLI, .FSI].contains (cat cs j) = false) := (init_in _).trans (by simpa using hi)
            have HG2 : Hid ((pmK cs j).set j (-1) = pmK cs (j + 1)) := pmK_set hlt (mAt_other (by simpa using hi))
            have HS2 : Hid (msK cs j = msK cs (j + 1)) := by
              show _ = _
              rw [msK, if_neg (fun h => hi h.1)]
            clear hi
            go_wp2_with (go_at_call 106; refine (in_new (c := cat cs j) (l := [.LRI, .RLI, .FSI]) false (by simp) (by rfl) rfl B1.out (by decide) _).mono ?_; rintro e w' ⟨rfl, rfl⟩)
            go_roundg (cs.length + 1 - (j + 1))
            case measure => have := hk.out; omega
            case rel => exact ⟨j + 1, by go_num, by omega, by rw [← HG2.out]; exact hGm.alloc _, by rw [← HS2.out]; exact hSm.alloc _, Row.alloc hPm _, hTm.alloc _, hum.alloc _, Nat.le_refl _⟩
        · obtain rfl : j = cs.length := by omega
          rw [pmK_end] at hG
          go_wp2
          go_end0
          exact ⟨rfl, gm, gs, by omega, by omega, by omega, hP, hG, hS, hu⟩
end Go.Proofs.YtjahmnenfknjgaaGreatDoor
namespace Go.Proofs.YtjahmnenfknjgaaGreatDoor
open Go.RowKit

set_option maxHeartbeats 4000000 in
set_option maxRecDepth 100000 in
theorem embLev_any (b gt ct gm n e a : Nat) (rs cs : List Cl) (w : World) (h4 : w.cell? ⟨b, 4, none⟩ = some (.slice (some ⟨gt, 0, none⟩) cs.length ct)) (h6 : w.cell? ⟨b, 6, none⟩ = some (.slice (some ⟨gm, 0, none⟩) cs.length cs.length))
    (ht : Row w gt 77 (clsU rs)) (hg : Row w gm 3 (nums .i64 (mt cs))) (hl : rs.length = cs.length) (he : e ≤ cs.length) (ha : a ≤ 2147483648) (hm : cs.length ≤ 2147483647)
    (hs : ∀ q, a ≤ q → q < e → cat rs q = cat cs q) (hn : ∀ q, a ≤ q → q < e → (cat cs q).isInit = true → mOf cs q ≤ e) :
    Calls Tryz.prog 121 #[.pointer (some ⟨b, 0, none⟩), .int .i64 a, .int .i64 e] w fun x w' => x = .returned (.int .i8 (fsLev cs a e)) ∧ Upd [] w w' := by
  have HF : Hid (∀ f, e < a + f → fsF cs e f a = fs cs a e) := fun f hf => fsF_more cs e _ _ a (by omega) (by omega)
  rw [fsLev]
  generalize fs cs a e = r at *
  have HS := Lib.hid hs
  have HN := Lib.hid hn
  have HL := Lib.hid hl
  clear hs hn hl
  go_enter Tryz.func121, Tryz.ntmps121
  go_wp2
  go_loopg [7, 8] (e + 1 - a) (fun k u i wr => u = .int .u64 18446744073709551615 ∧ ∃ j : Nat, i = .int .i64 j ∧ j ≤ 2147483648 ∧ Hid (∀ f, e < j + f → fsF cs e f j = r) ∧ Hid (a ≤ j) ∧ Upd [] w wr ∧ Hid (e + 1 - j ≤ k))
  case atStart => exact ⟨rfl, a, rfl, ha, HF, Nat.le_refl _, Upd.refl _ _, Nat.le_refl _⟩
  case round =>
    obtain ⟨rfl, j, rfl, hj, HF, HA, hu, hk⟩ := hrel
    by_cases hlt : j < e
    · have k4 := hu.cell h4 (by simp)
      have k6 := hu.cell h6 (by simp)
      have hlc : j < cs.length := by omega
      have hc := (ht.upd hu (by simp)).cls j (by rw [HL.out]; omega)
      have hc6 := (hg.upd hu (by simp)).num j (by rw [mt_length]; omega)
      rw [nth_mt hlc] at hc6
      rw [HS.out j HA.out hlt] at hc
      have h0 := HF.out (e + 1) (by omega)
      simp only [fsF] at h0
      rw [if_pos hlt] at h0
      by_cases hL : cat cs j = .L
      · rw [hL] at h0 hc
        have hc : wr.cell? ⟨gt, j, none⟩ = some (.int .u64 0) := hc
        have H0 : Hid (Option.some 0 = r) := h0
        clear hL h0 hc6
        go_wp2_with (go_at_call 106; refine (in_new (c := .L) (l := [.L, .AL, .R]) true (by simp) (by rfl) rfl rfl (by decide) _).mono ?_; rintro e w' ⟨rfl, rfl⟩)
        go_ret
        exact ⟨by rw [← H0.out]; rfl, hu.alloc _⟩
      rw [if_neg hL] at h0
      by_cases hR : cat cs j = .R
      · rw [hR] at h0 hc
        have hc : wr.cell? ⟨gt, j, none⟩ = some (.int .u64 1) := hc
        have H0 : Hid (Option.some 1 = r) := h0
        clear hL hR h0 hc6
        go_wp2_with (go_at_call 106; refine (in_new (c := .R) (l := [.L, .AL, .R]) true (by simp) (by rfl) rfl rfl (by decide) _).mono ?_; rintro e w' ⟨rfl, rfl⟩)
        go_ret
        exact ⟨by rw [← H0.out]; rfl, hu.alloc _⟩
      by_cases hA : cat cs j = .AL
      · rw [hA] at h0 hc
        have hc : wr.cell? ⟨gt, j, none⟩ = some (.int .u64 13) := hc
        have H0 : Hid (Option.some 1 = r) := h0
        clear hL hR hA h0 hc6
        go_wp2_with (go_at_call 106; refine (in_new (c := .AL) (l := [.L, .AL, .R]) true (by simp) (by rfl) rfl rfl (by decide) _).mono ?_; rintro e w' ⟨rfl, rfl⟩)
        go_ret
        exact ⟨by rw [← H0.out]; rfl, hu.alloc _⟩
      rw [if_neg (by simp [hR, hA])] at h0
      have B1 : Hid ([Cl.L, .AL, .R].contains (cat cs j) = false) := by
        show _ = _
        simp [hL, hR, hA]
      by_cases hi : (cat cs j).isInit = true
      · rw [mAt_init hi] at hc6
        have hme : mOf cs j ≤ e := HN.out j HA.out hlt hi
        have hmj := mOf_gt hlc
        rw [if_pos hi] at h0
        have B2 : Hid ([Cl.FSI, .LRI, .RLI].contains (cat cs j) = true) := by
          show _ = _
          revert hi; cases cat cs j <;> decide
        have HF2 : Hid (∀ f, e < mOf cs j + 1 + f → fsF cs e f (mOf cs j + 1) = r) := fun f hf => (fsF_more cs e _ _ _ hf (by omega)).trans h0
        have HA2 : Hid (a ≤ mOf cs j + 1) := Nat.le_trans HA.out (by omega)
        have e6 := cellA (cellA k6 (.cells #[.int .u64 0, .int .u64 13, .int .u64 1] 77)) (.cells #[.int .u64 23, .int .u64 21, .int .u64 22] 77)
        have eg := cellA (cellA hc6 (.cells #[.int .u64 0, .int .u64 13, .int .u64 1] 77)) (.cells #[.int .u64 23, .int .u64 21, .int .u64 22] 77)
        clear h0 hL hR hA hi
        go_wp2_with (first
          | (go_at_call 106; refine (in_new (c := cat cs j) (l := [.L, .AL, .R]) false (by simp) (by rfl) rfl B1.out (by decide) _).mono ?_; rintro e w' ⟨rfl, rfl⟩)
          | (go_at_call 106; refine (in_new (c := cat cs j) (l := [.FSI, .LRI, .RLI]) true (by simp) (by rfl) rfl B2.out (by decide) _).mono ?_; rintro e w' ⟨rfl, rfl⟩))
        go_roundg (e + 1 - (mOf cs j + 1))
        case measure => have := hk.out; omega
        case rel => exact ⟨rfl, mOf cs j + 1, by go_num, by omega, HF2, HA2, (hu.alloc _).alloc _, Nat.le_refl _⟩
      · rw [if_neg hi] at h0
        have B2 : Hid ([Cl.FSI, .LRI, .RLI].contains (cat cs j) = false) := by
          show _ = _
          revert hi; cases cat cs j <;> decide
        have HF2 : Hid (∀ f, e < j + 1 + f → fsF cs e f (j + 1) = r) := fun f hf => (fsF_more cs e _ _ _ hf (by omega)).trans h0
        have HA2 : Hid (a ≤ j + 1) := Nat.le_trans HA.out (by omega)
        clear h0 hL hR hA hi hc6
        go_wp2_with (first
          | (go_at_call 106; refine (in_new (c := cat cs j) (l := [.L, .AL, .R]) false (by simp) (by rfl) rfl B1.out (by decide) _).mono ?_; rintro e w' ⟨rfl, rfl⟩)
          | (go_at_call 106; refine (in_new (c := cat cs j) (l := [.FSI, .LRI, .RLI]) false (by simp) (by rfl) rfl B2.out (by decide) _).mono ?_; rintro e w' ⟨rfl, rfl⟩))
        go_roundg (e + 1 - (j + 1))
        case measure => have := hk.out; omega
        case rel => exact ⟨rfl, j + 1, by go_num, by omega, HF2, HA2, (hu.alloc _).alloc _, Nat.le_refl _⟩
    · have H0 : Hid (Option.none = r) := by
        show _ = _
        rw [← HF.out (e + 1) (by omega), fsF, if_neg hlt]
      go_wp2
      go_ret
      exact ⟨by rw [← H0.out]; rfl, hu⟩
end Go.Proofs.YtjahmnenfknjgaaGreatDoor
namespace Go.Proofs.YtjahmnenfknjgaaGreatDoor
open Go.RowKit

/-- The override status as the stack holds it. -/
def Ent.o (e : Ent) : Cl := e.ov.getD .ON
/-- The stack at block b holds the entries st (the top first). -/
def SK (w : World) (b : Nat) (st : List Ent) : Prop :=
  st.length ≤ 126 ∧ ∃ ls os is, Stk w b st.length ls os is ∧ ∀ e r l, st = l ++ e :: r → nth ls r.length = e.lv ∧ cat os r.length = e.o ∧ is.getD r.length false = e.iso
theorem SK.lt {w : World} {b : Nat} {st : List Ent} (h : SK w b st) : b < w.heap.size := by
  obtain ⟨_, ls, os, is, h, _⟩ := h
  exact h.row.lt
theorem SK.upd {S : List Nat} {w w' : World} {b : Nat} {st : List Ent} (h : SK w b st) (hu : Upd S w w') (hn : b ∉ S) : SK w' b st := by
  obtain ⟨h1, ls, os, is, h, h2⟩ := h
  exact ⟨h1, ls, os, is, h.upd hu hn, h2⟩
theorem SK.drewN {w : World} {b : Nat} {st : List Ent} (h : SK w b st) (n : Nat) : SK (w.drewN n) b st := h.upd ((Upd.refl [] w).drewN n) (by simp)
theorem SK.drew {w : World} {b : Nat} {st : List Ent} (h : SK w b st) : SK w.drew b st := h.upd ((Upd.refl [] w).drew) (by simp)
theorem SK.alloc {w : World} {b : Nat} {st : List Ent} (h : SK w b st) (o : Obj) : SK (w.alloc o) b st := h.upd ((Upd.refl [] w).alloc o) (by simp)
theorem SK.other {w : World} {b : Nat} {st : List Ent} (h : SK w b st) {p : Addr} (hp : b ≠ p.block) (u : Value) : SK (w.setCell p u) b st := h.upd ((Upd.refl [p.block] w).setCell (.inl (by simp)) u) (by simpa using hp)
theorem lastLev_sk {w : World} {b : Nat} {e : Ent} {r : List Ent} (h : SK w b (e :: r)) :
    Calls Tryz.prog 125 #[.pointer (some ⟨b, 0, none⟩)] w fun x w' => x = .returned (.int .i8 e.lv) ∧ ∃ q, w' = w.drewN q := by
  obtain ⟨h1, ls, os, is, h, h2⟩ := h
  rw [← (h2 e r [] rfl).1]
  exact lastLev_any b r.length ls os is w h (by simp at h1; omega)
theorem lastOvr_sk {w : World} {b : Nat} {e : Ent} {r : List Ent} (h : SK w b (e :: r)) :
    Calls Tryz.prog 126 #[.pointer (some ⟨b, 0, none⟩)] w fun x w' => x = .returned (.int .u64 e.o.e2) ∧ ∃ q, w' = w.drewN q := by
  obtain ⟨h1, ls, os, is, h, h2⟩ := h
  rw [← (h2 e r [] rfl).2.1]
  exact lastOvr_any b r.length ls os is w h (by simp at h1; omega)
theorem lastIso_sk {w : World} {b : Nat} {e : Ent} {r : List Ent} (h : SK w b (e :: r)) :
    Calls Tryz.prog 127 #[.pointer (some ⟨b, 0, none⟩)] w fun x w' => x = .returned (.bool e.iso) ∧ ∃ q, w' = w.drewN q := by
  obtain ⟨h1, ls, os, is, h, h2⟩ := h
  rw [← (h2 e r [] rfl).2.2]
  exact lastIso_any b r.length ls os is w h (by simp at h1; omega)
theorem stkPop_sk {w : World} {b : Nat} {e : Ent} {r : List Ent} (h : SK w b (e :: r)) :
    Calls Tryz.prog 128 #[.pointer (some ⟨b, 0, none⟩)] w fun x w' => x = .returned (.tuple #[]) ∧ SK w' b r ∧ Upd [b] w w' := by
  obtain ⟨h1, ls, os, is, h, h2⟩ := h
  refine (stkPop_any b r.length ls os is w h (by simp at h1; omega)).mono ?_
  rintro x w' ⟨rfl, rfl⟩
  exact ⟨rfl, ⟨by simp at h1; omega, ls, os, is, h.setCnt _, fun e' r' l hl => h2 e' r' (e :: l) (by rw [hl]; rfl)⟩, (Upd.refl _ _).setCell (.inl (by simp)) _⟩
theorem stkPush_sk {w : World} {b : Nat} {st : List Ent} (h : SK w b st) (hn : st.length < 126) (lv : Int) (ov : Option Cl) (iso : Bool) :
    Calls Tryz.prog 124 #[.pointer (some ⟨b, 0, none⟩), .int .i8 lv, .int .u64 (ov.getD .ON).e2, .bool iso] w fun x w' => x = .returned (.tuple #[]) ∧ SK w' b (⟨lv, ov, iso⟩ :: st) ∧ Upd [b] w w' := by
  obtain ⟨h1, ls, os, is, h, h2⟩ := h
  refine (stkPush_any b st.length ls os is lv (ov.getD .ON) iso w h hn).mono ?_
  rintro x w' ⟨rfl, hs, hu⟩
  refine ⟨rfl, ⟨by simp; omega, _, _, _, hs, ?_⟩, hu⟩
  intro e r l hl
  cases l with
  | nil =>
    simp at hl
    obtain ⟨rfl, rfl⟩ := hl
    exact ⟨nth_set_self (by rw [h.l1]; exact hn), cat_set_self (by rw [h.l2]; exact hn), by simp [List.getD, h.l3, hn]⟩
  | cons a l =>
    simp at hl
    obtain ⟨_, hl⟩ := hl
    have hlt : r.length ≠ st.length := by rw [hl]; simp; omega
    obtain ⟨k1, k2, k3⟩ := h2 e r l hl
    exact ⟨by rw [nth_set_ne (fun x => hlt x.symm)]; exact k1, by rw [cat_set_ne (fun x => hlt x.symm)]; exact k2, by rw [← k3]; simp [List.getD, List.getElem?_set_ne (fun x => hlt x.symm)]⟩

set_option maxHeartbeats 2000000 in
set_option maxRecDepth 100000 in
theorem depth_sk {w : World} {b : Nat} {st : List Ent} (h : SK w b st) :
    Calls Tryz.prog 129 #[.pointer (some ⟨b, 0, none⟩)] w fun x w' => x = .returned (.int .i64 st.length) ∧ w = w' := by
  obtain ⟨h1, ls, os, is, h, h2⟩ := h
  have c0 := h.cnt
  go_enter Tryz.func129, Tryz.ntmps129
  go_wp2
  go_ret
  exact ⟨rfl, rfl⟩
set_option maxHeartbeats 2000000 in
set_option maxRecDepth 100000 in
theorem empty_sk {w : World} {b : Nat} {st : List Ent} (h : SK w b st) :
    Calls Tryz.prog 130 #[.pointer (some ⟨b, 0, none⟩)] w fun x w' => x = .returned (.tuple #[]) ∧ SK w' b [] ∧ Upd [b] w w' := by
  obtain ⟨h1, ls, os, is, h, h2⟩ := h
  have c0 := h.cnt
  have f0 := h.row.free 0
  have h3 := h.setCnt 0
  go_enter Tryz.func130, Tryz.ntmps130
  go_wp2
  go_end0
  exact ⟨rfl, ⟨by simp, ls, os, is, h3, fun e r l hl => by simp at hl⟩, (Upd.refl _ _).setCell (.inl (by simp)) _⟩
end Go.Proofs.YtjahmnenfknjgaaGreatDoor
namespace Go.Proofs.YtjahmnenfknjgaaGreatDoor
open Go.RowKit
theorem or8 : ∀ n : Fin 127, bits .or .i8 (n.val : Int) 1 = if (n.val : Int) % 2 = 1 then (n.val : Int) else n.val + 1 := by decide
theorem andNot8 : ∀ n : Fin 128, bits .andNot .i8 (n.val : Int) 1 = if (n.val : Int) % 2 = 0 then (n.val : Int) else n.val - 1 := by decide
theorem and8 : ∀ n : Fin 128, bits .and .i8 (n.val : Int) 1 = (n.val : Int) % 2 := by decide
theorem next_odd {x : Int} (h0 : 0 ≤ x) (h : x ≤ 125) : bits .or .i8 (x + 1) 1 = nextLv x 1 := by
  obtain ⟨n, rfl⟩ := Int.eq_ofNat_of_zero_le h0
  have := or8 ⟨n + 1, by omega⟩
  simp only at this
  rw [show ((n : Int) + 1) = ((n + 1 : Nat) : Int) by omega, this]
  unfold nextLv
  push_cast
  split <;> omega
theorem next_even {x : Int} (h0 : 0 ≤ x) (h : x ≤ 125) : bits .andNot .i8 (x + 2) 1 = nextLv x 0 := by
  obtain ⟨n, rfl⟩ := Int.eq_ofNat_of_zero_le h0
  have := andNot8 ⟨n + 2, by omega⟩
  simp only at this
  rw [show ((n : Int) + 2) = ((n + 2 : Nat) : Int) by omega, this]
  unfold nextLv
  push_cast
  split <;> (split <;> omega)
theorem low_bit {x : Int} (h0 : 0 ≤ x) (h : x ≤ 127) : bits .and .i8 x 1 = x % 2 := by
  obtain ⟨n, rfl⟩ := Int.eq_ofNat_of_zero_le h0
  exact and8 ⟨n, by omega⟩
end Go.Proofs.YtjahmnenfknjgaaGreatDoor
namespace Go.Proofs.YtjahmnenfknjgaaGreatDoor
open Go.RowKit

theorem in_upd {l : List Cl} {n : Nat} {c : Cl} {w : World} {g : Nat} {vs : Array Value} (b : Bool) (hg : g = w.heap.size) (hv : vs = (clsU l).toArray) (hn : l.length = n) (hb : l.contains c = b) (hm : n ≤ 2147483647) (k : Nat) :
    Calls Tryz.prog 106 #[.int .u64 c.e2, .slice (some ⟨g, 0, none⟩) n k] (w.alloc (.cells vs 77)) fun e w' => e = .returned (.bool b) ∧ Upd [] w w' := by
  refine (in_new b hg hv hn hb hm k).mono ?_
  rintro e w' ⟨rfl, rfl⟩
  exact ⟨rfl, (Upd.refl _ _).alloc _⟩

/-- The names of the blocks. -/
structure XB where
  b : Nat
  gt : Nat
  ct : Nat
  gl : Nat
  cl : Nat
  gm : Nat
  sb : Nat
  i0 : Value
  pt : Value
  pv : Value
  s : Value
  base : Int
  n : Nat
structure XF (B : XB) (w0 w : World) (ms : List Int) (tl : List Cl) (ll : List Int) (st : List Ent) : Prop where
  par : Par w B.b B.i0 B.pt B.pv B.base (.slice (some ⟨B.gt, 0, none⟩) B.n B.ct) (.slice (some ⟨B.gl, 0, none⟩) B.n B.cl) (.slice (some ⟨B.gm, 0, none⟩) B.n B.n) B.s
  rt : Row w B.gt 77 (clsU tl)
  rl : Row w B.gl 112 (nums .i8 ll)
  rm : Row w B.gm 3 (nums .i64 ms)
  sk : SK w B.sb st
  up : Upd [B.gt, B.gl] w0 w
  sz : w0.heap.size ≤ B.sb
  lt : tl.length = B.n
  ll : ll.length = B.n
  n1 : B.b < B.sb
  n2 : B.gt < B.sb
  n3 : B.gl < B.sb
  n4 : B.gm < B.sb

theorem XF.ne {B : XB} {w0 w : World} {ms : List Int} {tl : List Cl} {ll : List Int} {st : List Ent} (h : XF B w0 w ms tl ll st) : B.b ≠ B.gt ∧ B.b ≠ B.gl ∧ B.gt ≠ B.gl ∧ B.gm ≠ B.gt ∧ B.gm ≠ B.gl :=
  ⟨Row.ne_type h.par h.rt (by decide), Row.ne_type h.par h.rl (by decide), Row.ne_type h.rt h.rl (by decide), Row.ne_type h.rm h.rt (by decide), Row.ne_type h.rm h.rl (by decide)⟩
theorem XF.upd0 {B : XB} {w0 w w' : World} {ms : List Int} {tl : List Cl} {ll : List Int} {st : List Ent} (h : XF B w0 w ms tl ll st) (hu : Upd [] w w') : XF B w0 w' ms tl ll st :=
  ⟨Par.upd h.par hu (by simp), h.rt.upd hu (by simp), h.rl.upd hu (by simp), h.rm.upd hu (by simp), h.sk.upd hu (by simp), h.up.then hu, h.sz, h.lt, h.ll, h.n1, h.n2, h.n3, h.n4⟩
theorem XF.drew {B : XB} {w0 w : World} {ms : List Int} {tl : List Cl} {ll : List Int} {st : List Ent} (h : XF B w0 w ms tl ll st) : XF B w0 w.drew ms tl ll st := h.upd0 ((Upd.refl _ _).drew)
theorem XF.drewN {B : XB} {w0 w : World} {ms : List Int} {tl : List Cl} {ll : List Int} {st : List Ent} (h : XF B w0 w ms tl ll st) (q : Nat) : XF B w0 (w.drewN q) ms tl ll st := h.upd0 ((Upd.refl _ _).drewN q)
theorem XF.setL {B : XB} {w0 w : World} {ms : List Int} {tl : List Cl} {ll : List Int} {st : List Ent} (h : XF B w0 w ms tl ll st) (j : Nat) (x : Int) (hj : j < B.n) : XF B w0 (w.setCell ⟨B.gl, j, none⟩ (.int .i8 x)) ms tl (ll.set j x) st := by
  obtain ⟨e1, e2, e3, e4, e5⟩ := h.ne
  have hu : Upd [B.gl] w (w.setCell ⟨B.gl, j, none⟩ (.int .i8 x)) := (Upd.refl _ _).setCell (.inl (by simp)) _
  have n3 := h.n3
  exact ⟨Par.upd h.par hu (by simpa using e2), h.rt.upd hu (by simpa using e3), h.rl.setNum j x (by rw [h.ll]; exact hj), h.rm.upd hu (by simpa using e5), h.sk.upd hu (by simp; omega), h.up.setCell (.inl (by simp)) _, h.sz, h.lt, by simpa using h.ll, h.n1, h.n2, h.n3, h.n4⟩
theorem XF.setT {B : XB} {w0 w : World} {ms : List Int} {tl : List Cl} {ll : List Int} {st : List Ent} (h : XF B w0 w ms tl ll st) (j : Nat) (x : Cl) (hj : j < B.n) : XF B w0 (w.setCell ⟨B.gt, j, none⟩ (.int .u64 x.e2)) ms (tl.set j x) ll st := by
  obtain ⟨e1, e2, e3, e4, e5⟩ := h.ne
  have hu : Upd [B.gt] w (w.setCell ⟨B.gt, j, none⟩ (.int .u64 x.e2)) := (Upd.refl _ _).setCell (.inl (by simp)) _
  have n2 := h.n2
  exact ⟨Par.upd h.par hu (by simpa using e1), h.rt.setCls j x (by rw [h.lt]; exact hj), h.rl.upd hu (by simpa using fun e => e3 e.symm), h.rm.upd hu (by simpa using e4), h.sk.upd hu (by simp; omega), h.up.setCell (.inl (by simp)) _, h.sz, by simpa using h.lt, h.ll, h.n1, h.n2, h.n3, h.n4⟩
theorem XF.stk {B : XB} {w0 w w' : World} {ms : List Int} {tl : List Cl} {ll : List Int} {st st' : List Ent} (h : XF B w0 w ms tl ll st) (hs : SK w' B.sb st') (hu : Upd [B.sb] w w') : XF B w0 w' ms tl ll st' := by
  have n1 := h.n1
  have n2 := h.n2
  have n3 := h.n3
  have n4 := h.n4
  exact ⟨Par.upd h.par hu (by simp; omega), h.rt.upd hu (by simp; omega), h.rl.upd hu (by simp; omega), h.rm.upd hu (by simp; omega), hs, h.up.step hu (fun t ht => .inr (by simp at ht; subst ht; exact h.sz)), h.sz, h.lt, h.ll, h.n1, h.n2, h.n3, h.n4⟩
theorem XF.c5 {B : XB} {w0 w : World} {ms : List Int} {tl : List Cl} {ll : List Int} {st : List Ent} (h : XF B w0 w ms tl ll st) : w.cell? ⟨B.b, 5, none⟩ = some (.slice (some ⟨B.gl, 0, none⟩) B.n B.cl) := h.par.cells.c5
theorem XF.c4 {B : XB} {w0 w : World} {ms : List Int} {tl : List Cl} {ll : List Int} {st : List Ent} (h : XF B w0 w ms tl ll st) : w.cell? ⟨B.b, 4, none⟩ = some (.slice (some ⟨B.gt, 0, none⟩) B.n B.ct) := h.par.cells.c4
theorem zero164 : Tryz.zeroCells164 = (stkCells 0 (List.replicate 126 0) (List.replicate 126 .L) (List.replicate 126 false)).toArray := by kernel_rfl
theorem SK.new (w : World) : SK (w.alloc (.cells Tryz.zeroCells164 164)) w.heap.size [] := by
  refine ⟨by simp, List.replicate 126 0, List.replicate 126 .L, List.replicate 126 false, ⟨?_, List.length_replicate, List.length_replicate, List.length_replicate⟩, fun e r l hl => by simp at hl⟩
  rw [zero164]; exact Row.new w 164 _
end Go.Proofs.YtjahmnenfknjgaaGreatDoor
namespace Go.Proofs.YtjahmnenfknjgaaGreatDoor
open Go.RowKit

set_option maxHeartbeats 2000000 in
theorem removed_any (c : Cl) (w : World) : Calls Tryz.prog 131 #[.int .u64 c.e2] w fun e w' => e = .returned (.bool c.isRem) ∧ w = w' := by
  cases c <;> (simp only [Cl.e2, Cl.isRem]; go_enter Tryz.func131, Tryz.ntmps131; go_wp2; go_ret; exact ⟨rfl, rfl⟩)
/-- White space for L1: what X9 removes, isolate formatting characters, WS. -/
def Cl.isWh (c : Cl) : Bool := c.isRem || c.isInit || c == .PDI || c == .WS
set_option maxHeartbeats 2000000 in
theorem white_any (c : Cl) (w : World) : Calls Tryz.prog 118 #[.int .u64 c.e2] w fun e w' => e = .returned (.bool c.isWh) ∧ w = w' := by
  cases c <;> (simp only [Cl.e2]; go_enter Tryz.func118, Tryz.ntmps118; go_wp2; go_ret; exact ⟨rfl, rfl⟩)
theorem typeFor_any (x : Int) (h0 : 0 ≤ x) (h1 : x ≤ 127) (w : World) : Calls Tryz.prog 116 #[.int .i8 x] w fun e w' => e = .returned (.int .u64 (dirOf x).e2) ∧ w = w' := by
  have hb := low_bit h0 h1
  by_cases h : x % 2 = 1
  · have hx : (x % 2 == 0) = false := by rw [h]; rfl
    have HD : Hid (dirOf x = .R) := by show _ = _; rw [dirOf, if_pos h]
    clear h
    go_enter Tryz.func116, Tryz.ntmps116
    go_wp2
    go_ret
    exact ⟨by rw [HD.out]; rfl, rfl⟩
  · have hx : (x % 2 == 0) = true := by
      have : x % 2 = 0 := by omega
      rw [this]; rfl
    have HD : Hid (dirOf x = .L) := by show _ = _; rw [dirOf, if_neg h]
    clear h
    go_enter Tryz.func116, Tryz.ntmps116
    go_wp2
    go_ret
    exact ⟨by rw [HD.out]; rfl, rfl⟩

/-- The isolating run sequence at block q. -/
def sqCells (p ix ty rl : Value) (lv : Int) (so eo : Cl) : List Value := [p, ix, ty, rl, .int .i8 lv, .int .u64 so.e2, .int .u64 eo.e2]
def Sq (w : World) (q : Nat) (p ix ty rl : Value) (lv : Int) (so eo : Cl) : Prop := Row w q 122 (sqCells p ix ty rl lv so eo)
structure SqC (w : World) (q : Nat) (p ix ty rl : Value) (lv : Int) (so eo : Cl) : Prop where
  c0 : w.cell? ⟨q, 0, none⟩ = some p
  c1 : w.cell? ⟨q, 1, none⟩ = some ix
  c2 : w.cell? ⟨q, 2, none⟩ = some ty
  c3 : w.cell? ⟨q, 3, none⟩ = some rl
  c4 : w.cell? ⟨q, 4, none⟩ = some (.int .i8 lv)
  c5 : w.cell? ⟨q, 5, none⟩ = some (.int .u64 so.e2)
  c6 : w.cell? ⟨q, 6, none⟩ = some (.int .u64 eo.e2)
theorem Sq.cells {w : World} {q : Nat} {p ix ty rl : Value} {lv : Int} {so eo : Cl} (h : Sq w q p ix ty rl lv so eo) : SqC w q p ix ty rl lv so eo :=
  ⟨h.cell 0 (by simp [sqCells]), h.cell 1 (by simp [sqCells]), h.cell 2 (by simp [sqCells]), h.cell 3 (by simp [sqCells]), h.cell 4 (by simp [sqCells]), h.cell 5 (by simp [sqCells]), h.cell 6 (by simp [sqCells])⟩
theorem Sq.upd {S : List Nat} {w w' : World} {q : Nat} {p ix ty rl : Value} {lv : Int} {so eo : Cl} (h : Sq w q p ix ty rl lv so eo) (hu : Upd S w w') (hn : q ∉ S) : Sq w' q p ix ty rl lv so eo := Row.upd h hu hn
theorem Sq.set3 {w : World} {q : Nat} {p ix ty rl : Value} {lv : Int} {so eo : Cl} (h : Sq w q p ix ty rl lv so eo) (v : Value) : Sq (w.setCell ⟨q, 3, none⟩ v) q p ix ty v lv so eo := Row.set h 3 v (by simp [sqCells])

set_option maxRecDepth 100000 in
theorem sqLen_any (q n : Nat) (A : Option Addr) (c : Nat) (w : World) (h : w.cell? ⟨q, 1, none⟩ = some (.slice A n c)) :
    Calls Tryz.prog 110 #[.pointer (some ⟨q, 0, none⟩)] w fun e w' => e = .returned (.int .i64 n) ∧ w = w' := by
  go_enter Tryz.func110, Tryz.ntmps110
  go_wp2
  go_ret
  exact ⟨rfl, rfl⟩

/-- Places a to b - 1 of a list set to x. -/
def setR (l : List Cl) (a b : Nat) (x : Cl) : List Cl := (List.range l.length).map fun q => if a ≤ q ∧ q < b then x else cat l q
theorem setR_length (l : List Cl) (a b : Nat) (x : Cl) : (setR l a b x).length = l.length := by simp [setR]
theorem cat_setR {l : List Cl} {a b : Nat} {x : Cl} {q : Nat} (h : q < l.length) : cat (setR l a b x) q = if a ≤ q ∧ q < b then x else cat l q := by simp [cat, setR, h]
theorem setR_start (l : List Cl) (a : Nat) (x : Cl) : setR l a a x = l := by
  refine ext_cat (setR_length _ _ _ _) fun q hq => ?_
  rw [setR_length] at hq
  rw [cat_setR hq, if_neg (by omega)]
theorem setR_succ {l : List Cl} {a b : Nat} {x : Cl} (h : a ≤ b) (hb : b < l.length) : (setR l a b x).set b x = setR l a (b + 1) x := by
  refine ext_cat (by simp [setR]) fun q hq => ?_
  rw [List.length_set, setR_length] at hq
  rw [cat_set (by rw [setR_length]; exact hb), cat_setR hq, cat_setR hq]
  by_cases e : q = b
  · subst e; rw [if_pos rfl, if_pos (by omega)]
  · rw [if_neg e]
    by_cases e2 : a ≤ q ∧ q < b
    · rw [if_pos e2, if_pos (by omega)]
    · rw [if_neg e2, if_neg (by omega)]

set_option maxHeartbeats 2000000 in
set_option maxRecDepth 100000 in
theorem setTypes_any (g a n c : Nat) (l : List Cl) (x : Cl) (w : World) (h : Row w g 77 (clsU l)) (hn : a + n ≤ l.length) (hm : l.length ≤ 2147483647) :
    Calls Tryz.prog 112 #[.slice (some ⟨g, a, none⟩) n c, .int .u64 x.e2] w fun e w' => e = .returned (.tuple #[]) ∧ Row w' g 77 (clsU (setR l a (a + n) x)) ∧ Upd [g] w w' := by
  go_enter Tryz.func112, Tryz.ntmps112
  go_wp2
  go_loopg [7] (n + 1) (fun k i wr => ∃ (j : Nat), i = .int .i64 j ∧ j ≤ n ∧ Row wr g 77 (clsU (setR l a (a + j) x)) ∧ Upd [g] w wr ∧ Hid (n + 1 - j ≤ k))
  case atStart => exact ⟨0, rfl, by omega, by rw [Nat.add_zero, setR_start]; exact h, Upd.refl _ _, Nat.le_refl _⟩
  case round =>
    obtain ⟨j, rfl, hj, hr, hu, hk⟩ := hrel
    by_cases hlt : j < n
    · have hc := hr.cls (a + j) (by rw [setR_length]; omega)
      have hf := hr.free (a + j)
      have HS : Hid ((setR l a (a + j) x).set (a + j) x = setR l a (a + (j + 1)) x) := setR_succ (by omega) (by omega)
      go_wp2
      go_roundg (n + 1 - (j + 1))
      case measure => have := hk.out; omega
      case rel => exact ⟨j + 1, by go_num, by omega, by rw [← HS.out]; exact hr.setCls (a + j) x (by rw [setR_length]; omega), hu.setCell (p := ⟨g, a + j, none⟩) (.inl (by simp)) _, Nat.le_refl _⟩
    · obtain rfl : j = n := by omega
      go_wp2
      go_end0
      exact ⟨rfl, hr, hu⟩
end Go.Proofs.YtjahmnenfknjgaaGreatDoor
namespace Go.Proofs.YtjahmnenfknjgaaGreatDoor
open Go.RowKit

/-- From place i on: the first place whose class is none of those meant, else the end. -/
def rlim (p : Cl → Bool) (l : List Cl) (i : Nat) : Nat := i + ((l.drop i).takeWhile p).length
theorem rlim_yes {p : Cl → Bool} {l : List Cl} {i : Nat} (h : i < l.length) (hp : p (cat l i) = true) : rlim p l i = rlim p l (i + 1) := by
  unfold rlim; rw [drop_cat h, List.takeWhile_cons, if_pos hp]; simp; omega
theorem rlim_no {p : Cl → Bool} {l : List Cl} {i : Nat} (h : i < l.length) (hp : p (cat l i) = false) : rlim p l i = i := by
  unfold rlim; rw [drop_cat h, List.takeWhile_cons, if_neg (by rw [hp]; simp)]; simp
theorem rlim_end {p : Cl → Bool} {l : List Cl} {i : Nat} (h : l.length ≤ i) : rlim p l i = i := by
  unfold rlim; rw [List.drop_eq_nil_of_le h]; rfl
theorem rlim_ge (p : Cl → Bool) (l : List Cl) (i : Nat) : i ≤ rlim p l i := Nat.le_add_right _ _
theorem rlim_le (p : Cl → Bool) (l : List Cl) {i : Nat} (h : i ≤ l.length) : rlim p l i ≤ l.length := by
  unfold rlim
  have := (List.takeWhile_sublist p (l := l.drop i)).length_le
  simp at this; omega
theorem rlim_in {p : Cl → Bool} {l : List Cl} : ∀ (k i q : Nat), rlim p l i = i + k → i ≤ q → q < i + k → i ≤ l.length → p (cat l q) = true
  | 0, i, q, h, h1, h2, _ => by omega
  | k + 1, i, q, h, h1, h2, hl => by
    by_cases hi : i < l.length
    · cases hp : p (cat l i) with
      | false => rw [rlim_no hi hp] at h; omega
      | true =>
        by_cases e : q = i
        · subst e; exact hp
        · rw [rlim_yes hi hp] at h
          exact rlim_in k (i + 1) q (by omega) (by omega) (by omega) (by omega)
    · rw [rlim_end (by omega)] at h; omega
theorem rlim_mem {p : Cl → Bool} {l : List Cl} {i q : Nat} (hl : i ≤ l.length) (h1 : i ≤ q) (h2 : q < rlim p l i) : p (cat l q) = true :=
  rlim_in (rlim p l i - i) i q (by have := rlim_ge p l i; omega) h1 (by have := rlim_ge p l i; omega) hl
theorem rlim_stop_aux {p : Cl → Bool} {l : List Cl} : ∀ (k i : Nat), rlim p l i = i + k → rlim p l i < l.length → p (cat l (rlim p l i)) = false
  | 0, i, h, hl => by
    have hi : i < l.length := by omega
    cases hp : p (cat l i) with
    | false => rw [rlim_no hi hp]; exact hp
    | true => have h2 := rlim_ge p l (i + 1); rw [rlim_yes hi hp] at h; omega
  | k + 1, i, h, hl => by
    have hi : i < l.length := by omega
    cases hp : p (cat l i) with
    | false => rw [rlim_no hi hp] at h; omega
    | true =>
      rw [rlim_yes hi hp] at h hl ⊢
      exact rlim_stop_aux k (i + 1) (by omega) hl
theorem rlim_stop {p : Cl → Bool} {l : List Cl} {i : Nat} (h : rlim p l i < l.length) : p (cat l (rlim p l i)) = false :=
  rlim_stop_aux (rlim p l i - i) i (by have := rlim_ge p l i; omega) h

set_option maxHeartbeats 4000000 in
set_option maxRecDepth 100000 in
theorem assertOnly_any (q gt n ct : Nat) (A : Option Addr) (kc : Nat) (l codes : List Cl) (w : World) (h2 : w.cell? ⟨q, 2, none⟩ = some (.slice (some ⟨gt, 0, none⟩) n ct)) (ht : Row w gt 77 (clsU l)) (hn : l.length = n) (hm : n ≤ 2147483647)
    (hr : Rd w A (clsU codes)) (hc : codes.length ≤ 2147483647) (ha : ∀ j, j < n → codes.contains (cat l j) = true) :
    Calls Tryz.prog 109 #[.pointer (some ⟨q, 0, none⟩), .slice A codes.length kc] w fun e w' => e = .returned (.tuple #[]) ∧ w = w' := by
  have HA := Lib.hid ha
  have HN := Lib.hid hn
  clear ha hn
  go_enter Tryz.func109, Tryz.ntmps109
  go_wp2
  go_step3
  go_wp2
  go_step3
  go_wp2
  go_loopg [13] (n + 1) (fun k i wr => ∃ (j : Nat), i = .int .i64 j ∧ j ≤ n ∧ wr = w ∧ Hid (n + 1 - j ≤ k))
  case atStart => exact ⟨0, rfl, by omega, rfl, Nat.le_refl _⟩
  case round =>
    obtain ⟨j, rfl, hj, rfl, hk⟩ := hrel
    by_cases hlt : j < n
    · have hcj := ht.cls j (by rw [HN.out]; exact hlt)
      have HM := Lib.hid (HA.out j hlt)
      go_wp2
      go_loopg [19] (codes.length + 1) (fun k i wr2 => ∃ (p : Nat), i = .int .i64 p ∧ p ≤ codes.length ∧ wr2 = wr ∧ Hid (∀ z, z < p → cat codes z ≠ cat l j) ∧ Hid (codes.length + 1 - p ≤ k))
      case atStart => exact ⟨0, rfl, by omega, rfl, fun z hz => by omega, Nat.le_refl _⟩
      case round =>
        obtain ⟨p, rfl, hp, rfl, HZ, hk2⟩ := hrel
        have hpl : p < codes.length := by
          by_cases hpl : p < codes.length
          · exact hpl
          · have hmm := HM.out
            simp only [List.contains_iff_mem] at hmm
            obtain ⟨z, hz, e⟩ := List.getElem_of_mem hmm
            exact absurd (by rw [← e]; simp [cat, hz]) (HZ.out z (by omega))
        obtain ⟨g, o, rfl, hcp⟩ := hr.cls p hpl
        have hbq : ((cat l j).e2 == (cat codes p).e2) = decide (cat l j = cat codes p) := Cl.e2_beq _ _
        by_cases hx : cat l j = cat codes p
        · rw [decide_eq_true hx] at hbq
          clear hx
          go_wp2
          go_roundg (n + 1 - (j + 1))
          case measure => have := hk.out; omega
          case rel => exact ⟨j + 1, by go_num, by omega, rfl, Nat.le_refl _⟩
        · rw [decide_eq_false hx] at hbq
          have HZ2 : Hid (∀ z, z < p + 1 → cat codes z ≠ cat l j) := fun z hz => by
            by_cases e : z = p
            · subst e; exact fun h => hx h.symm
            · exact HZ.out z (by omega)
          clear hx
          go_wp2
          go_roundg (codes.length + 1 - (p + 1))
          case measure => have := hk2.out; omega
          case rel => exact ⟨p + 1, by go_num, by omega, rfl, HZ2, Nat.le_refl _⟩
    · go_wp2
      rw [Exit.noGoto_normal]
      go_end0
      exact ⟨rfl, rfl⟩

set_option maxHeartbeats 4000000 in
set_option maxRecDepth 100000 in
theorem runLimit_any (q gt n ct : Nat) (A : Option Addr) (kc a : Nat) (l codes : List Cl) (w : World) (h2 : w.cell? ⟨q, 2, none⟩ = some (.slice (some ⟨gt, 0, none⟩) n ct)) (ht : Row w gt 77 (clsU l)) (hn : l.length = n) (hm : n ≤ 2147483647)
    (hr : Rd w A (clsU codes)) (hc : codes.length ≤ 2147483647) (ha : a ≤ n) :
    Calls Tryz.prog 111 #[.pointer (some ⟨q, 0, none⟩), .int .i64 a, .slice A codes.length kc] w fun e w' => e = .returned (.int .i64 (rlim codes.contains l a)) ∧ w = w' := by
  have HN := Lib.hid hn
  have HE : Hid (rlim codes.contains l n = n) := rlim_end (by omega)
  obtain ⟨r, hr0⟩ : ∃ r, r = rlim codes.contains l a := ⟨_, rfl⟩
  have HR : Hid (rlim codes.contains l a = r) := hr0.symm
  rw [← hr0]
  clear hn hr0
  go_enter Tryz.func111, Tryz.ntmps111
  go_wp2
  go_step3
  go_wp2
  go_step3
  go_wp2
  go_loopg [1] (n + 1 - a) (fun k i wr => ∃ (j : Nat), i = .int .i64 j ∧ j ≤ n ∧ wr = w ∧ Hid (rlim codes.contains l j = r) ∧ Hid (n + 1 - j ≤ k))
  case atStart => exact ⟨a, rfl, ha, rfl, HR, Nat.le_refl _⟩
  case round =>
    obtain ⟨j, rfl, hj, rfl, HR, hk⟩ := hrel
    by_cases hlt : j < n
    · have hcj := ht.cls j (by rw [HN.out]; exact hlt)
      go_wp2
      go_loopg [28] (codes.length + 1) (fun k i wr2 => ∃ (p : Nat), i = .int .i64 p ∧ p ≤ codes.length ∧ wr2 = wr ∧ Hid (∀ z, z < p → cat codes z ≠ cat l j) ∧ Hid (codes.length + 1 - p ≤ k))
      case atStart => exact ⟨0, rfl, by omega, rfl, fun z hz => by omega, Nat.le_refl _⟩
      case round =>
        obtain ⟨p, rfl, hp, rfl, HZ, hk2⟩ := hrel
        by_cases hpl : p < codes.length
        · obtain ⟨g, o, rfl, hcp⟩ := hr.cls p hpl
          have hbq : ((cat l j).e2 == (cat codes p).e2) = decide (cat l j = cat codes p) := Cl.e2_beq _ _
          by_cases hx : cat l j = cat codes p
          · rw [decide_eq_true hx] at hbq
            have HR2 : Hid (rlim codes.contains l (j + 1) = r) := by
              show _ = _
              refine (rlim_yes (by rw [HN.out]; exact hlt) ?_).symm.trans HR.out
              rw [hx, ← cat_eq hpl]
              simp only [List.contains_iff_mem]; exact List.getElem_mem _
            clear hx
            go_wp2
            go_roundg (n + 1 - (j + 1))
            case measure => have := hk.out; omega
            case rel => exact ⟨j + 1, by go_num, by omega, rfl, HR2, Nat.le_refl _⟩
          · rw [decide_eq_false hx] at hbq
            have HZ2 : Hid (∀ z, z < p + 1 → cat codes z ≠ cat l j) := fun z hz => by
              by_cases e : z = p
              · subst e; exact fun h => hx h.symm
              · exact HZ.out z (by omega)
            clear hx
            go_wp2
            go_roundg (codes.length + 1 - (p + 1))
            case measure => have := hk2.out; omega
            case rel => exact ⟨p + 1, by go_num, by omega, rfl, HZ2, Nat.le_refl _⟩
        · have HR2 : Hid (r = j) := by
            show _ = _
            rw [← HR.out, rlim_no (by rw [HN.out]; exact hlt)]
            simp only [List.contains_eq_mem, decide_eq_false_iff_not]
            intro hmm
            obtain ⟨z, hz, e⟩ := List.getElem_of_mem hmm
            exact HZ.out z (by omega) (by rw [← e]; simp [cat, hz])
          go_wp2
          try rw [Exit.noGoto_ret]
          go_ret
          exact ⟨by rw [HR2.out]; rfl, rfl⟩
    · have HR2 : Hid (r = n) := by
        obtain rfl : j = n := by omega
        show _ = _
        rw [← HR.out, HE.out]
      go_wp2
      try rw [Exit.noGoto_ret]
      go_ret
      exact ⟨by rw [HR2.out]; rfl, rfl⟩
end Go.Proofs.YtjahmnenfknjgaaGreatDoor
namespace Go.Proofs.YtjahmnenfknjgaaGreatDoor
open Go.RowKit

structure QB where
  q : Nat
  gt : Nat
  ct : Nat
  n : Nat
  A : Option Addr
  ic : Nat
  p : Value
  rl : Value
  lv : Int
  so : Cl
  eo : Cl
structure QF (B : QB) (w0 w : World) (m : List Cl) : Prop where
  sq : Sq w B.q B.p (.slice B.A B.n B.ic) (.slice (some ⟨B.gt, 0, none⟩) B.n B.ct) B.rl B.lv B.so B.eo
  rt : Row w B.gt 77 (clsU m)
  up : Upd [B.gt] w0 w
  ln : m.length = B.n
theorem QF.ne {B : QB} {w0 w : World} {m : List Cl} (h : QF B w0 w m) : B.q ≠ B.gt := Row.ne_type h.sq h.rt (by decide)
theorem QF.upd0 {B : QB} {w0 w w' : World} {m : List Cl} (h : QF B w0 w m) (hu : Upd [] w w') : QF B w0 w' m := ⟨h.sq.upd hu (by simp), h.rt.upd hu (by simp), h.up.then hu, h.ln⟩
theorem QF.setT {B : QB} {w0 w : World} {m : List Cl} (h : QF B w0 w m) (j : Nat) (x : Cl) (hj : j < B.n) : QF B w0 (w.setCell ⟨B.gt, j, none⟩ (.int .u64 x.e2)) (m.set j x) :=
  ⟨h.sq.upd ((Upd.refl [B.gt] w).setCell (.inl (by simp)) _) (by simpa using h.ne), h.rt.setCls j x (by rw [h.ln]; exact hj), h.up.setCell (.inl (by simp)) _, by simpa using h.ln⟩
theorem QF.turn {B : QB} {w0 w w' : World} {m m' : List Cl} (h : QF B w0 w m) (hr : Row w' B.gt 77 (clsU m')) (hu : Upd [B.gt] w w') (hl : m'.length = m.length) : QF B w0 w' m' :=
  ⟨h.sq.upd hu (by simpa using h.ne), hr, h.up.trans hu, hl.trans h.ln⟩
theorem QF.cl {B : QB} {w0 w : World} {m : List Cl} (h : QF B w0 w m) (j : Nat) (hj : j < B.n) : w.cell? ⟨B.gt, j, none⟩ = some (.int .u64 (cat m j).e2) := h.rt.cls j (by rw [h.ln]; exact hj)

theorem runLimit_upd {q gt n ct a g kc : Nat} {l codes : List Cl} {w : World} {vs : Array Value} {k : Nat} (h2 : w.cell? ⟨q, 2, none⟩ = some (.slice (some ⟨gt, 0, none⟩) n ct)) (ht : Row w gt 77 (clsU l)) (hn : l.length = n) (hm : n ≤ 2147483647)
    (hg : g = w.heap.size) (hv : vs = (clsU codes).toArray) (hk : codes.length = k) (hc : codes.length ≤ 2147483647) (ha : a ≤ n) :
    Calls Tryz.prog 111 #[.pointer (some ⟨q, 0, none⟩), .int .i64 a, .slice (some ⟨g, 0, none⟩) k kc] (w.alloc (.cells vs 77)) fun e w' => e = .returned (.int .i64 (rlim codes.contains l a)) ∧ Upd [] w w' := by
  subst hg hv hk
  refine (runLimit_any q gt n ct _ kc a l codes _ (cellA h2 _) (ht.alloc _) hn hm (Rd.of_row (Row.new w 77 (clsU codes))) hc ha).mono ?_
  rintro e w' ⟨rfl, rfl⟩
  exact ⟨rfl, (Upd.refl _ _).alloc _⟩
theorem assertOnly_upd {q gt n ct g kc : Nat} {l codes : List Cl} {w : World} {vs : Array Value} {k : Nat} (h2 : w.cell? ⟨q, 2, none⟩ = some (.slice (some ⟨gt, 0, none⟩) n ct)) (ht : Row w gt 77 (clsU l)) (hn : l.length = n) (hm : n ≤ 2147483647)
    (hg : g = w.heap.size) (hv : vs = (clsU codes).toArray) (hk : codes.length = k) (hc : codes.length ≤ 2147483647) (ha : ∀ j, j < n → codes.contains (cat l j) = true) :
    Calls Tryz.prog 109 #[.pointer (some ⟨q, 0, none⟩), .slice (some ⟨g, 0, none⟩) k kc] (w.alloc (.cells vs 77)) fun e w' => e = .returned (.tuple #[]) ∧ Upd [] w w' := by
  subst hg hv hk
  refine (assertOnly_any q gt n ct _ kc l codes _ (cellA h2 _) (ht.alloc _) hn hm (Rd.of_row (Row.new w 77 (clsU codes))) hc ha).mono ?_
  rintro e w' ⟨rfl, rfl⟩
  exact ⟨rfl, (Upd.refl _ _).alloc _⟩
/-- The classes that W1 to W7 meet. -/
def weakC : List Cl := [.L, .R, .AL, .EN, .ES, .ET, .AN, .CS, .B, .S, .WS, .ON, .NSM, .LRI, .RLI, .FSI, .PDI]
theorem weakC_p0 (c : Cl) (h : c.p0 = true) : weakC.contains c = true := by revert h; cases c <;> decide
theorem mkP_p1 {l : List Cl} {st : Cl} (hl : AllC Cl.p0 l) (hs : st = .L ∨ st = .R) : ∀ i, i < l.length → (mkP l st i).p1 = true
  | 0, h => by
    have := hl 0 h
    unfold mkP; split
    · rcases hs with rfl | rfl <;> rfl
    · rename_i e; revert this e; cases cat l 0 <;> simp [Cl.p0, Cl.p1, Cl.isRem]
  | i + 1, h => by
    have h0 := hl (i + 1) h
    have ih := mkP_p1 hl hs i (by omega)
    unfold mkP; split
    · exact ih
    · rename_i e; revert h0 e; cases cat l (i + 1) <;> simp [Cl.p0, Cl.p1, Cl.isRem]
theorem w6L_isN {l : List Cl} {st : Cl} (hl : AllC Cl.p0 l) (hs : st = .L ∨ st = .R) : AllC isN (w6L (w5L (w4L (w3L (w2L (marksP l st) st))))) := by
  have h1 : AllC Cl.p1 (marksP l st) := .lst (mkP_p1 hl hs)
  have h2 : AllC Cl.p1 (w2L (marksP l st) st) := .lst (w2_p1 h1)
  have h3 : AllC Cl.p2 (w3L (w2L (marksP l st) st)) := .lst (w3_p2 h2)
  have h4 : AllC Cl.p2 (w4L (w3L (w2L (marksP l st) st))) := .lst (w4_p2 h3)
  have h5 : AllC Cl.p2 (w5L (w4L (w3L (w2L (marksP l st) st)))) := .lst (w5_p2 h4)
  exact .lst (w6_isN h5)
theorem weakP_isN {l : List Cl} {st : Cl} (hl : AllC Cl.p0 l) (hs : st = .L ∨ st = .R) : AllC isN (weakP l st) := .lst (w7_isN (w6L_isN hl hs))
end Go.Proofs.YtjahmnenfknjgaaGreatDoor
