/- The law FnResolveAnswer, walked. -/
import Derived.Test.YtjahmnenfknjgaaGreatDoorG25
import Derived.Test.YtjahmnenfknjgaaGreatDoorG26
import Derived.Deep.RegionHeld3
set_option linter.unusedVariables false
set_option linter.unusedSimpArgs false
namespace Go.Proofs.YtjahmnenfknjgaaGreatDoor
open Go.RowKit

set_option maxHeartbeats 8000000 in
set_option maxRecDepth 100000 in
theorem lawResolve_any (A1 A2 A3 : Option Addr) (c1 c2 c3 : Nat) (base : Int) (ts ks vs : List Int) (w : World) (hT : Tab w)
    (h1 : Rd w A1 (nums .i64 ts)) (h2 : Rd w A2 (nums .i64 ks)) (h3 : Rd w A3 (nums .i64 vs)) :
    Calls Tryz.prog 3 #[.slice A1 ts.length c1, .slice A2 ks.length c2, .slice A3 vs.length c3, .int .i64 base] w fun e w' => e = .returned (.bool true) ∧ Upd [] w w' := by
  by_cases m1 : ts.length ≤ 2147483647
  · by_cases m2 : ks.length ≤ 2147483647
    · by_cases m3 : vs.length ≤ 2147483647
      · have C1 := isCase_any A1 A2 A3 c1 c2 c3 ts ks vs base w h1 h2 h3 m1 m2 m3
        have q1 : decide ((2147483647 : Int) < (ts.length : Int)) = false := by simp; omega
        have q2 : decide ((2147483647 : Int) < (ks.length : Int)) = false := by simp; omega
        have q3 : decide ((2147483647 : Int) < (vs.length : Int)) = false := by simp; omega
        by_cases p : CaseP ts ks vs base
        · have D1 := Lib.hid (C1.mono (fun e w' h => And.intro (h.1.yes1 p) h.2))
          obtain ⟨cs, rfl, h0, hB⟩ := par_cls p.1
          rw [clsI_length] at *
          have hG := case_guards p hB h0 m1
          have hkl := hG.kn
          have hvl := hG.vn
          have hpos : ∀ j, j < ks.length → 0 ≤ nth vs j ∧ nth vs j ≤ 1114111 := fun j hj => by
            have := p.2.1.2.2 j (by rw [clsI_length]; omega)
            by_cases hz : nth ks j = 0
            · rw [this.2.2.1 hz]; omega
            · have := this.2.2.2 (by omega); omega
          have hsg : ∀ j, j < (signed ks vs).length → -1114111 ≤ nth (signed ks vs) j ∧ nth (signed ks vs) j ≤ 1114111 := fun j hj => by
            rw [signed_length] at hj
            have := hpos j hj
            rw [nth_signed hj]
            split
            · omega
            split
            · omega
            · omega
          obtain ⟨a, ha⟩ : ∃ a, a = lvAt cs base := ⟨_, rfl⟩
          have hab : a = baseOf cs base := by rw [ha]; exact lvAt_base hG.em
          have haR : a = 0 ∨ a = 1 := by rw [ha]; exact lvAt_range hG.em
          have C2 := baseLevel_any A1 c1 cs base w h1 m1
          rw [← hab] at C2
          have K3 : Hid (∀ W, Upd [] w W → Calls Tryz.prog 8 #[.slice A1 cs.length c1, .int .i64 a] W fun e w' => SaysB (ClosP cs a) e ∧ Upd [] W w') := fun W hW => closes_any A1 c1 cs a W (h1.keep hW) h0 m1 haR
          have K4 : Hid (∀ W, Upd [] w W → ∃ g, w.heap.size ≤ g ∧ Calls Tryz.prog 10 #[.slice A2 cs.length c2, .slice A3 cs.length c3] W fun e w' => e = .returned (.slice (some ⟨g, 0, none⟩) cs.length cs.length) ∧ Row w' g 3 (nums .i64 (signed ks vs)) ∧ Upd [] W w') := fun W hW => by
            refine ⟨W.heap.size, hW.size, ?_⟩
            have h := signed_any A2 A3 c2 c3 ks vs W (h2.keep hW) (h3.keep hW) (by omega) hpos m2
            rw [hkl] at h; exact h
          have K5 : Hid (∀ g W, Upd [] w W → Row W g 3 (nums .i64 (signed ks vs)) → Calls Tryz.prog 9 #[.slice A1 cs.length c1, .slice (some ⟨g, 0, none⟩) cs.length cs.length, .int .i64 a] W (RetTwo W cs.length (tyI (lvs cs a) (resolved cs (signed ks vs) a).1) (resolved cs (signed ks vs) a).2)) := fun g W hW hr =>
            sResolved_any A1 (some ⟨g, 0, none⟩) c1 cs.length cs (signed ks vs) a W (h1.keep hW) (Rd.of_row hr) (by rw [signed_length]; omega) h0 m1 haR hsg hG.op
          have K6 : Hid (∀ W, Upd [] w W → Calls Tryz.prog 11 #[.slice A1 cs.length c1, .slice A2 cs.length c2, .slice A3 cs.length c3, .int .i64 base] W fun e w' => ∃ g1 g2, e = .returned (.tuple #[.slice (some ⟨g1, 0, none⟩) cs.length cs.length, .slice (some ⟨g2, 0, none⟩) cs.length cs.length, .int .i64 a, .bool true]) ∧
              Row w' g1 3 (nums .i64 (clsI (ownTs cs (wholeP cs (signed ks vs) a).1))) ∧ Row w' g2 3 (nums .i64 (lents cs (wholeP cs (signed ks vs) a).2 a)) ∧ w.heap.size ≤ g1 ∧ w.heap.size ≤ g2 ∧ Upd [] W w') := fun W hW => by
            have h := iResolve_any A1 A2 A3 c1 c2 c3 base cs ks vs W hG (hT.upd hW (by simp)) (fun j hj => hpos j (by omega)) (h1.keep hW) (h2.keep hW) (h3.keep hW)
            rw [← ha] at h
            exact h.mono fun e w' ⟨g1, g2, e1, e2, e3, e4, e5, e6⟩ => ⟨g1, g2, e1, e2, e3, Nat.le_trans hW.size e4, Nat.le_trans hW.size e5, e6⟩
          have HEQ : Hid (¬ ClosP cs a → ∀ q, q < cs.length → nth (resolved cs (signed ks vs) a).2 q ≠ -1 →
              nth (clsI (ownTs cs (wholeP cs (signed ks vs) a).1)) q = nth (tyI (lvs cs a) (resolved cs (signed ks vs) a).1) q ∧ nth (lents cs (wholeP cs (signed ks vs) a).2 a) q = nth (resolved cs (signed ks vs) a).2 q) := fun hC q hq hn => by
            rw [ha] at hC hn ⊢; exact answer_eq hG hC hq hn
          obtain ⟨X, hX⟩ : ∃ X, X = clsI (ownTs cs (wholeP cs (signed ks vs) a).1) := ⟨_, rfl⟩
          obtain ⟨Y, hY⟩ : ∃ Y, Y = lents cs (wholeP cs (signed ks vs) a).2 a := ⟨_, rfl⟩
          obtain ⟨X', hX'⟩ : ∃ X, X = tyI (lvs cs a) (resolved cs (signed ks vs) a).1 := ⟨_, rfl⟩
          obtain ⟨Y', hY'⟩ : ∃ Y, Y = (resolved cs (signed ks vs) a).2 := ⟨_, rfl⟩
          rw [← hX, ← hY, ← hX', ← hY'] at HEQ
          rw [← hX'] at K5; rw [← hY'] at K5
          rw [← hX, ← hY] at K6
          have lX : X.length = cs.length := by rw [hX, clsI_length]; unfold ownTs; rw [lst_length]; exact whole_length.1
          have lY : Y.length = cs.length := by rw [hY, lents_length]
          have lX' : X'.length = cs.length := by rw [hX', tyI_length]; exact resolved_length.1
          have lY' : Y'.length = cs.length := by rw [hY']; exact resolved_length.2
          have K7 : Hid (¬ ClosP cs a → ∀ g1 g2 k2 g3 k3 W, Row W g1 3 (nums .i64 X) → Row W g2 3 (nums .i64 X') → Row W g3 3 (nums .i64 Y') → Calls Tryz.prog 12 #[.slice (some ⟨g1, 0, none⟩) cs.length cs.length, .slice (some ⟨g2, 0, none⟩) cs.length k2, .slice (some ⟨g3, 0, none⟩) cs.length k3] W fun e w' => e = .returned (.bool true) ∧ Upd [] W w') := fun hC g1 g2 k2 g3 k3 W r1 r2 r3 => by
            have h := sameWhere_true (some ⟨g1, 0, none⟩) (some ⟨g2, 0, none⟩) (some ⟨g3, 0, none⟩) cs.length k2 k3 X X' Y' W (Rd.of_row r1) (Rd.of_row r2) (Rd.of_row r3) (by omega) (by omega) (fun j hj hn => (HEQ.out hC j (by omega) hn).1) (by omega)
            rw [lY'] at h; exact h
          have K8 : Hid (¬ ClosP cs a → ∀ g1 g3 k3 W, Row W g1 3 (nums .i64 Y) → Row W g3 3 (nums .i64 Y') → Calls Tryz.prog 12 #[.slice (some ⟨g1, 0, none⟩) cs.length cs.length, .slice (some ⟨g3, 0, none⟩) cs.length k3, .slice (some ⟨g3, 0, none⟩) cs.length k3] W fun e w' => e = .returned (.bool true) ∧ Upd [] W w') := fun hC g1 g3 k3 W r1 r3 => by
            have h := sameWhere_true (some ⟨g1, 0, none⟩) (some ⟨g3, 0, none⟩) (some ⟨g3, 0, none⟩) cs.length k3 k3 Y Y' Y' W (Rd.of_row r1) (Rd.of_row r3) (Rd.of_row r3) (by omega) rfl (fun j hj hn => (HEQ.out hC j (by omega) hn).2) (by omega)
            rw [lY'] at h; exact h
          rw [hkl, hvl] at D1
          rw [hkl] at q2; rw [hvl] at q3
          rw [hkl, hvl]
          clear C1 hG hpos hsg hab haR hT h1 h2 h3 HEQ hX hY hX' hY' lX lY lX' lY' p ha hkl hvl h0 hB
          by_cases hC : ClosP cs a
          · have K3' : Hid (∀ W, Upd [] w W → Calls Tryz.prog 8 #[.slice A1 cs.length c1, .int .i64 a] W fun e w' => e = .returned (.bool true) ∧ Upd [] W w') := fun W hW => (K3.out W hW).mono fun e w' ⟨⟨b, e1, e2⟩, e3⟩ => by
              refine ⟨?_, e3⟩
              cases b with
              | true => exact e1
              | false => have := e2.2 hC; cases this
            clear K3 K4 K5 K6 K7 K8
            go_enter Tryz.func3, Tryz.ntmps3
            go_wp2_with (first
              | (go_at_call 6; refine D1.out.mono ?_; rintro e w' ⟨rfl, rfl⟩)
              | (go_at_call 7; refine C2.mono ?_; rintro e w1 ⟨rfl, u1⟩; have k3 := K3'.out w1 u1)
              | (go_at_call 8; refine k3.mono ?_; rintro e w2 ⟨rfl, u2⟩; have u12 := u1.trans u2))
            go_ret
            exact ⟨rfl, u12⟩
          · have K3' : Hid (∀ W, Upd [] w W → Calls Tryz.prog 8 #[.slice A1 cs.length c1, .int .i64 a] W fun e w' => e = .returned (.bool false) ∧ Upd [] W w') := fun W hW => (K3.out W hW).mono fun e w' ⟨⟨b, e1, e2⟩, e3⟩ => by
              refine ⟨?_, e3⟩
              cases b with
              | false => exact e1
              | true => exact absurd (e2.1 rfl) hC
            have K7 := Lib.hid (K7.out hC)
            have K8 := Lib.hid (K8.out hC)
            clear K3
            go_enter Tryz.func3, Tryz.ntmps3
            go_wp2_with (first
              | (go_at_call 6; refine D1.out.mono ?_; rintro e w' ⟨rfl, rfl⟩)
              | (go_at_call 7; refine C2.mono ?_; rintro e w1 ⟨rfl, u1⟩; have k3 := K3'.out w1 u1)
              | (go_at_call 8; refine k3.mono ?_; rintro e w2 ⟨rfl, u2⟩; have u12 := u1.trans u2; obtain ⟨g4, hg4, k4⟩ := K4.out w2 u12)
              | (go_at_call 10; refine k4.mono ?_; rintro e w3 ⟨rfl, r3, u3⟩; have u13 := u12.trans u3; have k5 := K5.out g4 w3 u13 r3)
              | (go_at_call 9; refine k5.mono ?_; rintro e w4 ⟨g5, k5', g6, k6', rfl, hg5, hg6, hg56, r5, r6, u4⟩; have u14 := u13.trans u4; have k6 := K6.out w4 u14)
              | (go_at_call 11; refine k6.mono ?_; rintro e w5 ⟨g7, g8, rfl, r7, r8, hg7, hg8, u5⟩; have u15 := u14.trans u5; have r5b := r5.upd u5 (by simp); have r6b := r6.upd u5 (by simp); have k7 := K7.out g7 g5 k5' g6 k6' w5 r7 r5b r6b)
              | (go_at_call 12; with_reducible refine k7.mono ?_; rintro e w6 ⟨rfl, u6⟩; have u16 := u15.trans u6; have k8 := K8.out g8 g6 k6' w6 (r8.upd u6 (by simp)) (r6b.upd u6 (by simp)))
              | (go_at_call 12; with_reducible refine k8.mono ?_; rintro e w7 ⟨rfl, u7⟩))
            go_ret
            exact ⟨rfl, u16.trans u7⟩
        · have D1 := Lib.hid (C1.mono (fun e w' h => And.intro (h.1.no1 p) h.2))
          clear C1 p
          go_enter Tryz.func3, Tryz.ntmps3
          go_wp2_with (go_at_call 6; refine D1.out.mono ?_; rintro e w' ⟨rfl, rfl⟩)
          go_ret
          exact ⟨rfl, Upd.refl _ _⟩
      · have q1 : decide ((2147483647 : Int) < (ts.length : Int)) = false := by simp; omega
        have q2 : decide ((2147483647 : Int) < (ks.length : Int)) = false := by simp; omega
        have q3 : decide ((2147483647 : Int) < (vs.length : Int)) = true := by simp; omega
        clear m1 m2 m3
        go_enter Tryz.func3, Tryz.ntmps3
        go_wp2
        go_ret
        exact ⟨rfl, Upd.refl _ _⟩
    · have q1 : decide ((2147483647 : Int) < (ts.length : Int)) = false := by simp; omega
      have q2 : decide ((2147483647 : Int) < (ks.length : Int)) = true := by simp; omega
      clear m1 m2
      go_enter Tryz.func3, Tryz.ntmps3
      go_wp2
      go_ret
      exact ⟨rfl, Upd.refl _ _⟩
  · have q1 : decide ((2147483647 : Int) < (ts.length : Int)) = true := by simp; omega
    clear m1
    go_enter Tryz.func3, Tryz.ntmps3
    go_wp2
    go_ret
    exact ⟨rfl, Upd.refl _ _⟩
end Go.Proofs.YtjahmnenfknjgaaGreatDoor
