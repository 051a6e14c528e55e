/- The package's resolveWeakTypes, by its contract. -/
import Derived.Test.YtjahmnenfknjgaaGreatDoorG8
set_option linter.unusedVariables false
set_option linter.unusedSimpArgs false
namespace Go.Proofs.YtjahmnenfknjgaaGreatDoor
open Go.RowKit

set_option maxHeartbeats 16000000 in
set_option maxRecDepth 100000 in
theorem weak_any (B : QB) (l : List Cl) (w : World) (hX : QF B w w l) (hl : AllC Cl.p0 l) (hso : B.so = .L ∨ B.so = .R) (heo : B.eo = .L ∨ B.eo = .R) (hct : B.n ≤ B.ct) (hm : B.n ≤ 2147483647) :
    Calls Tryz.prog 85 #[.pointer (some ⟨B.q, 0, none⟩)] w fun e w' => e = .returned (.tuple #[]) ∧ QF B w w' (weakP l B.so) := by
  have HC : Hid (∀ j, j < B.n → weakC.contains (cat l j) = true) := fun j hj => weakC_p0 _ (hl j (by rw [hX.ln]; exact hj))
  have HP := Lib.hid hl
  have HSO := Lib.hid hso
  have HEO := Lib.hid heo
  have HLN := Lib.hid hX.ln
  clear hl hso heo
  go_enter Tryz.func85, Tryz.ntmps85
  go_wp2_with (go_at_call 109; refine (assertOnly_upd (codes := weakC) hX.sq.cells.c2 hX.rt hX.ln hm (by simp) (by rfl) (by rfl) (by decide) HC.out).mono ?_; rintro e w1 ⟨rfl, hu1⟩; have hX1 := hX.upd0 hu1; have k2 := hX1.sq.cells.c2; have k5 := hX1.sq.cells.c5)
  clear hX hu1 k2 k5
  have HR0 : Hid (QF B w w1 (upTo (mkP l B.so) l 0)) := by show QF _ _ _ _; rw [upTo_zero]; exact hX1
  clear hX1
  -- W1
  go_loopg [2, 38] (B.n + 1) (fun k s i wr => ∃ (j : Nat), s = .int .u64 (preP l B.so j).e2 ∧ i = .int .i64 j ∧ j ≤ B.n ∧ QF B w wr (upTo (mkP l B.so) l j) ∧ Hid (B.n + 1 - j ≤ k))
  case atStart => exact ⟨0, rfl, rfl, by omega, HR0.out, Nat.le_refl _⟩
  case round =>
    obtain ⟨j, rfl, rfl, hj, hX, hk⟩ := hrel
    have k2 := hX.sq.cells.c2
    by_cases hlt : j < B.n
    · have hjl : j < l.length := by rw [HLN.out]; exact hlt
      have hc := hX.cl j hlt
      rw [cat_upTo_at hjl] at hc
      have hf := hX.rt.free j
      have hbq : ((cat l j).e2 == 12) = decide (cat l j = .NSM) := Cl.e2_beq (cat l j) .NSM
      by_cases hx : cat l j = .NSM
      · rw [decide_eq_true hx] at hbq
        have HS := Lib.hid (upTo_set (f := mkP l B.so) hjl (mkP_nsm hx))
        have HN : Hid (preP l B.so (j + 1) = preP l B.so j) := mkP_nsm hx
        clear hx
        go_wp2
        go_roundg (B.n + 1 - (j + 1))
        case measure => have := hk.out; omega
        case rel => exact ⟨j + 1, by rw [HN.out], by go_num, by omega, by rw [← HS.out]; exact hX.setT j _ hlt, Nat.le_refl _⟩
      · rw [decide_eq_false hx] at hbq
        have HS := Lib.hid (upTo_same (f := mkP l B.so) hjl (mkP_other hx))
        have HN : Hid (preP l B.so (j + 1) = cat l j) := mkP_other hx
        clear hx
        go_wp2
        go_roundg (B.n + 1 - (j + 1))
        case measure => have := hk.out; omega
        case rel => exact ⟨j + 1, by rw [HN.out], by go_num, by omega, by rw [← HS.out]; exact hX, Nat.le_refl _⟩
    · have hX2 : QF B w wr (marksP l B.so) := by
        obtain rfl : j = B.n := by omega
        rw [← HLN.out, upTo_end] at hX; exact hX
      obtain ⟨l1, hl1⟩ : ∃ l1, l1 = marksP l B.so := ⟨_, rfl⟩
      rw [← hl1] at hX2
      have HL1 := Lib.hid hl1
      have HLN1 := Lib.hid hX2.ln
      have HR1 : Hid (QF B w wr (upTo (w2 l1 B.so) l1 0)) := by show QF _ _ _ _; rw [upTo_zero]; exact hX2
      clear hX hl1 HR0
      go_wp2
      clear hX2 hlt hj hk
      -- W2
      go_loopg [59] (B.n + 1) (fun k i wr => ∃ (j : Nat), i = .int .i64 j ∧ j ≤ B.n ∧ QF B w wr (upTo (w2 l1 B.so) l1 j) ∧ Hid (B.n + 1 - j ≤ k))
      case atStart => exact ⟨0, rfl, by omega, HR1.out, Nat.le_refl _⟩
      case round =>
        obtain ⟨j, rfl, hj, hX, hk⟩ := hrel
        clear k2
        have k2 := hX.sq.cells.c2
        by_cases hlt : j < B.n
        · have hjl : j < l1.length := by rw [HLN1.out]; exact hlt
          have hc := hX.cl j hlt
          rw [cat_upTo_at hjl] at hc
          have hbq : ((cat l1 j).e2 == 2) = decide (cat l1 j = .EN) := Cl.e2_beq (cat l1 j) .EN
          by_cases hx : cat l1 j = .EN
          · rw [decide_eq_true hx] at hbq
            have HX := Lib.hid hx
            have HSB : Hid (sb (upTo (w2 l1 B.so) l1 j) B.so j = sb l1 B.so j) := sb_w2 j fun q hq => cat_upTo_lt (by omega) hq
            have HMC : Hid (QF B w wr (upTo (w2 l1 B.so) l1 j)) := hX
            clear hx
            go_wp2
            go_loopg [7] (j + 1) (fun k i wr2 => ∃ (p : Nat), i = .int .i64 ((p : Int) - 1) ∧ p ≤ j ∧ QF B w wr2 (upTo (w2 l1 B.so) l1 j) ∧ Hid (sb (upTo (w2 l1 B.so) l1 j) B.so p = sb l1 B.so j) ∧ Hid (p + 1 ≤ k))
            case atStart => exact ⟨j, rfl, Nat.le_refl _, hX, HSB, Nat.le_refl _⟩
            case round =>
              obtain ⟨p, rfl, hp, hX, HS, hk2⟩ := hrel
              clear k2
              have k2 := hX.sq.cells.c2
              by_cases hp0 : p = 0
              · subst hp0
                have HW : Hid (w2 l1 B.so j = cat l1 j) := by
                  show _ = _
                  rw [w2, if_neg]
                  rintro ⟨-, h⟩
                  rw [← HS.out] at h
                  rcases HSO.out with h2 | h2 <;> rw [sb, h2] at h <;> exact absurd h (by decide)
                have HS2 := Lib.hid (upTo_same (f := w2 l1 B.so) hjl HW.out)
                go_wp2
                go_roundg (B.n + 1 - (j + 1))
                case measure => have := hk.out; omega
                case rel => exact ⟨j + 1, by go_num, by omega, by rw [← HS2.out]; exact hX, Nat.le_refl _⟩
              · obtain ⟨p, rfl⟩ : ∃ p', p = p' + 1 := ⟨p - 1, by omega⟩
                have hpp : ((p + 1 : Nat) : Int) - 1 = p := by omega
                have hcp := hX.cl p (by omega)
                have hcj := hX.cl j hlt
                have hfj := hX.rt.free j
                obtain ⟨x, hx⟩ : ∃ x, x = cat (upTo (w2 l1 B.so) l1 j) p := ⟨_, rfl⟩
                rw [← hx] at hcp
                have hs := HS.out
                rw [sb, ← hx] at hs
                have hb1 : (x.e2 == 13) = decide (x = .AL) := Cl.e2_beq x .AL
                simp only [hpp]
                clear hx
                by_cases hin : x = .L ∨ x = .R ∨ x = .AL
                · rw [if_pos hin] at hs
                  have B1 : Hid ([Cl.L, .R, .AL].contains x = true) := by
                    show _ = _
                    rcases hin with h | h | h <;> rw [h] <;> rfl
                  by_cases hal : x = .AL
                  · rw [decide_eq_true hal] at hb1
                    have HW : Hid (w2 l1 B.so j = .AN) := by
                      show _ = _
                      rw [w2, if_pos ⟨HX.out, by rw [← hs, hal]⟩]
                    have HS2 := Lib.hid (upTo_set (f := w2 l1 B.so) hjl HW.out)
                    clear hin hal hs hc
                    go_wp2_with (go_at_call 106; refine (in_upd (c := x) (l := [.L, .R, .AL]) true (by simp) (by rfl) rfl B1.out (by decide) _).mono ?_; rintro e w2 ⟨rfl, hu2⟩; have hX3 := hX.upd0 hu2; have k3 := hX3.sq.cells.c2; have hc3 := hX3.cl j hlt; have hf3 := hX3.rt.free j)
                    go_roundg (B.n + 1 - (j + 1))
                    case measure => have := hk.out; omega
                    case rel => exact ⟨j + 1, by go_num, by omega, by rw [← HS2.out]; exact hX3.setT j .AN hlt, Nat.le_refl _⟩
                  · rw [decide_eq_false hal] at hb1
                    have HW : Hid (w2 l1 B.so j = cat l1 j) := by
                      show _ = _
                      rw [w2, if_neg (fun h => hal (hs.trans h.2))]
                    have HS2 := Lib.hid (upTo_same (f := w2 l1 B.so) hjl HW.out)
                    clear hin hal hs hc
                    go_wp2_with (go_at_call 106; refine (in_upd (c := x) (l := [.L, .R, .AL]) true (by simp) (by rfl) rfl B1.out (by decide) _).mono ?_; rintro e w2 ⟨rfl, hu2⟩; have hX3 := hX.upd0 hu2)
                    go_roundg (B.n + 1 - (j + 1))
                    case measure => have := hk.out; omega
                    case rel => exact ⟨j + 1, by go_num, by omega, by rw [← HS2.out]; exact hX3, Nat.le_refl _⟩
                · rw [if_neg hin] at hs
                  have HS3 := Lib.hid hs
                  have B1 : Hid ([Cl.L, .R, .AL].contains x = false) := by
                    show _ = _
                    simpa using hin
                  clear hin hs hb1 hc
                  go_wp2_with (go_at_call 106; refine (in_upd (c := x) (l := [.L, .R, .AL]) false (by simp) (by rfl) rfl B1.out (by decide) _).mono ?_; rintro e w2 ⟨rfl, hu2⟩; have hX3 := hX.upd0 hu2)
                  go_roundg (p + 1)
                  case measure => have := hk2.out; omega
                  case rel => exact ⟨p, by go_num, by omega, hX3, HS3, Nat.le_refl _⟩
          · rw [decide_eq_false hx] at hbq
            have HS2 : Hid (upTo (w2 l1 B.so) l1 j = upTo (w2 l1 B.so) l1 (j + 1)) := upTo_same (f := w2 l1 B.so) hjl (by rw [w2, if_neg (fun h => hx h.1)])
            clear hx
            go_wp2
            go_roundg (B.n + 1 - (j + 1))
            case measure => have := hk.out; omega
            case rel => exact ⟨j + 1, by go_num, by omega, by rw [← HS2.out]; exact hX, Nat.le_refl _⟩
        · have hX2 : QF B w wr (w2L l1 B.so) := by
            obtain rfl : j = B.n := by omega
            rw [← HLN1.out, upTo_end] at hX; exact hX
          obtain ⟨l2, hl2⟩ : ∃ l2, l2 = w2L l1 B.so := ⟨_, rfl⟩
          rw [← hl2] at hX2
          have HL2 := Lib.hid hl2
          have HLN2 := Lib.hid hX2.ln
          have HR2 : Hid (QF B w wr (upTo (w3 l2) l2 0)) := by show QF _ _ _ _; rw [upTo_zero]; exact hX2
          clear hX hl2 HR1
          go_wp2
          clear hX2 hlt hj hk
          -- W3
          go_loopg [96] (B.n + 1) (fun k i wr => ∃ (j : Nat), i = .int .i64 j ∧ j ≤ B.n ∧ QF B w wr (upTo (w3 l2) l2 j) ∧ Hid (B.n + 1 - j ≤ k))
          case atStart => exact ⟨0, rfl, by omega, HR2.out, Nat.le_refl _⟩
          case round =>
            obtain ⟨j, rfl, hj, hX, hk⟩ := hrel
            clear k2
            have k2 := hX.sq.cells.c2
            by_cases hlt : j < B.n
            · have hjl : j < l2.length := by rw [HLN2.out]; exact hlt
              have hc := hX.cl j hlt
              rw [cat_upTo_at hjl] at hc
              have hf := hX.rt.free j
              have hbq : ((cat l2 j).e2 == 13) = decide (cat l2 j = .AL) := Cl.e2_beq (cat l2 j) .AL
              by_cases hx : cat l2 j = .AL
              · rw [decide_eq_true hx] at hbq
                have HS := Lib.hid (upTo_set (f := w3 l2) (x := .R) hjl (by rw [w3, if_pos hx]))
                clear hx
                go_wp2
                go_roundg (B.n + 1 - (j + 1))
                case measure => have := hk.out; omega
                case rel => exact ⟨j + 1, by go_num, by omega, by rw [← HS.out]; exact hX.setT j .R hlt, Nat.le_refl _⟩
              · rw [decide_eq_false hx] at hbq
                have HS := Lib.hid (upTo_same (f := w3 l2) hjl (by rw [w3, if_neg hx]))
                clear hx
                go_wp2
                go_roundg (B.n + 1 - (j + 1))
                case measure => have := hk.out; omega
                case rel => exact ⟨j + 1, by go_num, by omega, by rw [← HS.out]; exact hX, Nat.le_refl _⟩
            · have hX2 : QF B w wr (w3L l2) := by
                obtain rfl : j = B.n := by omega
                rw [← HLN2.out, upTo_end] at hX; exact hX
              obtain ⟨l3, hl3⟩ : ∃ l3, l3 = w3L l2 := ⟨_, rfl⟩
              rw [← hl3] at hX2
              have HL3 := Lib.hid hl3
              have HLN3 := Lib.hid hX2.ln
              have HR3 : Hid (QF B w wr (upTo (w4 l3) l3 1)) := by
                show QF _ _ _ _
                by_cases h0 : 0 < l3.length
                · rw [← upTo_same (f := w4 l3) h0 rfl, upTo_zero]; exact hX2
                · have : upTo (w4 l3) l3 1 = l3 := ext_cat (upTo_length _ _ _) (fun q hq => by rw [upTo_length] at hq; omega)
                  rw [this]; exact hX2
              clear hX hl3 HR2
              go_wp2
              clear hX2 hlt hj hk
              -- W4
              go_loopg [11] (B.n + 1) (fun k i wr => ∃ (j : Nat), i = .int .i64 j ∧ 1 ≤ j ∧ j ≤ B.n + 1 ∧ QF B w wr (upTo (w4 l3) l3 j) ∧ Hid (B.n + 1 - j ≤ k))
              case atStart => exact ⟨1, rfl, by omega, by omega, HR3.out, by show _ ≤ _; omega⟩
              case round =>
                obtain ⟨j, rfl, hj1, hj, hX, hk⟩ := hrel
                clear k2
                have k2 := hX.sq.cells.c2
                have k1 := hX.sq.cells.c1
                by_cases hlt : j + 1 < B.n
                · have hlt2 : (j : Int) < (B.n : Int) - 1 := by omega
                  have hjl : j < l3.length := by rw [HLN3.out]; omega
                  obtain ⟨p, rfl⟩ : ∃ p, j = p + 1 := ⟨j - 1, by omega⟩
                  have hpi : ((p + 1 : Nat) : Int) - 1 = p := by omega
                  have hsi : ((p + 1 : Nat) : Int) + 1 = ((p + 2 : Nat) : Int) := by omega
                  have hc := hX.cl (p + 1) (by omega)
                  rw [cat_upTo_at hjl] at hc
                  have hcp := hX.cl p (by omega)
                  rw [cat_upTo_lt (by have := HLN3.out; omega) (by omega)] at hcp
                  have hcs := hX.cl (p + 2) (by omega)
                  rw [cat_upTo_ge (by have := HLN3.out; omega) (by omega)] at hcs
                  have hf := hX.rt.free (p + 1)
                  have hw : w4 l3 (p + 1) = if p + 2 < l3.length ∧ w4 l3 p = cat l3 (p + 2) ∧ ((cat l3 (p + 1) = .ES ∧ w4 l3 p = .EN) ∨ (cat l3 (p + 1) = .CS ∧ (w4 l3 p = .EN ∨ w4 l3 p = .AN))) then w4 l3 p else cat l3 (p + 1) := rfl
                  have hp2 : p + 2 < l3.length := by rw [HLN3.out]; omega
                  obtain ⟨x, hx⟩ : ∃ x, x = cat l3 (p + 1) := ⟨_, rfl⟩
                  obtain ⟨a, ha⟩ : ∃ a, a = w4 l3 p := ⟨_, rfl⟩
                  obtain ⟨b, hb⟩ : ∃ b, b = cat l3 (p + 2) := ⟨_, rfl⟩
                  rw [← hx] at hc
                  rw [← ha] at hcp
                  rw [← hb] at hcs
                  rw [← hx, ← ha, ← hb] at hw
                  have b1 : (x.e2 == 3) = decide (x = .ES) := Cl.e2_beq x .ES
                  have b2 : (x.e2 == 6) = decide (x = .CS) := Cl.e2_beq x .CS
                  have b3 : (a.e2 == 2) = decide (a = .EN) := Cl.e2_beq a .EN
                  have b4 : (b.e2 == 2) = decide (b = .EN) := Cl.e2_beq b .EN
                  have b5 : (a.e2 == 5) = decide (a = .AN) := Cl.e2_beq a .AN
                  have b6 : (b.e2 == 5) = decide (b = .AN) := Cl.e2_beq b .AN
                  have HXE := Lib.hid hx
                  clear ha hb hx
                  by_cases hES : x = .ES
                  · subst hES
                    by_cases hen : a = .EN ∧ b = .EN
                    · obtain ⟨rfl, rfl⟩ := hen
                      have HS := Lib.hid (upTo_set (f := w4 l3) (x := .EN) hjl (by rw [hw, if_pos ⟨hp2, rfl, .inl ⟨rfl, rfl⟩⟩]))
                      clear hw b2 b3 b4 b5 b6
                      replace hcp : wr.cell? ⟨B.gt, p, none⟩ = some (.int .u64 2) := hcp
                      replace hcs : wr.cell? ⟨B.gt, p + 2, none⟩ = some (.int .u64 2) := hcs
                      replace hc : wr.cell? ⟨B.gt, p + 1, none⟩ = some (.int .u64 3) := hc
                      clear b1
                      go_wp2_with (go_at_call 110; refine (sqLen_any _ _ _ _ _ (by assumption)).mono ?_; rintro e w' ⟨rfl, rfl⟩)
                      go_roundg (B.n + 1 - (p + 1 + 1))
                      case measure => have := hk.out; omega
                      case rel => exact ⟨p + 1 + 1, by go_num, by omega, by omega, by rw [← HS.out]; exact hX.setT (p + 1) .EN (by omega), Nat.le_refl _⟩
                    · have HS := Lib.hid (upTo_same (f := w4 l3) hjl (by rw [hw, ← HXE.out, if_neg (by rintro ⟨-, h1, h2 | h2⟩; exact hen ⟨h2.2, h1 ▸ h2.2⟩; exact absurd h2.1 (by decide))]))
                      clear hw b2 b5 b6
                      replace hc : wr.cell? ⟨B.gt, p + 1, none⟩ = some (.int .u64 3) := hc
                      clear b1
                      by_cases ha : a = .EN
                      · have hb : ¬ b = .EN := fun h => hen ⟨ha, h⟩
                        rw [decide_eq_true ha] at b3
                        rw [decide_eq_false hb] at b4
                        clear ha hb hen
                        go_wp2_with (go_at_call 110; refine (sqLen_any _ _ _ _ _ (by assumption)).mono ?_; rintro e w' ⟨rfl, rfl⟩)
                        go_roundg (B.n + 1 - (p + 1 + 1))
                        case measure => have := hk.out; omega
                        case rel => exact ⟨p + 1 + 1, by go_num, by omega, by omega, by rw [← HS.out]; exact hX, Nat.le_refl _⟩
                      · rw [decide_eq_false ha] at b3
                        clear ha hen b4
                        go_wp2_with (go_at_call 110; refine (sqLen_any _ _ _ _ _ (by assumption)).mono ?_; rintro e w' ⟨rfl, rfl⟩)
                        go_roundg (B.n + 1 - (p + 1 + 1))
                        case measure => have := hk.out; omega
                        case rel => exact ⟨p + 1 + 1, by go_num, by omega, by omega, by rw [← HS.out]; exact hX, Nat.le_refl _⟩

                  · rw [decide_eq_false hES] at b1
                    by_cases hCS : x = .CS
                    · subst hCS
                      by_cases hen : a = .EN ∧ b = .EN
                      · obtain ⟨rfl, rfl⟩ := hen
                        have HS := Lib.hid (upTo_set (f := w4 l3) (x := .EN) hjl (by rw [hw, if_pos ⟨hp2, rfl, .inr ⟨rfl, .inl rfl⟩⟩]))
                        clear hw b2 b3 b4 b5 b6
                        replace hcp : wr.cell? ⟨B.gt, p, none⟩ = some (.int .u64 2) := hcp
                        replace hcs : wr.cell? ⟨B.gt, p + 2, none⟩ = some (.int .u64 2) := hcs
                        replace hc : wr.cell? ⟨B.gt, p + 1, none⟩ = some (.int .u64 6) := hc
                        clear b1
                        go_wp2_with (go_at_call 110; refine (sqLen_any _ _ _ _ _ (by assumption)).mono ?_; rintro e w' ⟨rfl, rfl⟩)
                        go_roundg (B.n + 1 - (p + 1 + 1))
                        case measure => have := hk.out; omega
                        case rel => exact ⟨p + 1 + 1, by go_num, by omega, by omega, by rw [← HS.out]; exact hX.setT (p + 1) .EN (by omega), Nat.le_refl _⟩
                      · by_cases han : a = .AN ∧ b = .AN
                        · obtain ⟨rfl, rfl⟩ := han
                          have HS := Lib.hid (upTo_set (f := w4 l3) (x := .AN) hjl (by rw [hw, if_pos ⟨hp2, rfl, .inr ⟨rfl, .inr rfl⟩⟩]))
                          clear hw b2 b3 b4 b5 b6 b1 hen
                          replace hcp : wr.cell? ⟨B.gt, p, none⟩ = some (.int .u64 5) := hcp
                          replace hcs : wr.cell? ⟨B.gt, p + 2, none⟩ = some (.int .u64 5) := hcs
                          replace hc : wr.cell? ⟨B.gt, p + 1, none⟩ = some (.int .u64 6) := hc
                          go_wp2_with (go_at_call 110; refine (sqLen_any _ _ _ _ _ (by assumption)).mono ?_; rintro e w' ⟨rfl, rfl⟩)
                          go_roundg (B.n + 1 - (p + 1 + 1))
                          case measure => have := hk.out; omega
                          case rel => exact ⟨p + 1 + 1, by go_num, by omega, by omega, by rw [← HS.out]; exact hX.setT (p + 1) .AN (by omega), Nat.le_refl _⟩
                        · have HS := Lib.hid (upTo_same (f := w4 l3) hjl (by rw [hw, ← HXE.out, if_neg (by rintro ⟨-, h1, h2 | h2⟩; exact absurd h2.1 (by decide); rcases h2.2 with h3 | h3; exact hen ⟨h3, h1 ▸ h3⟩; exact han ⟨h3, h1 ▸ h3⟩)]))
                          clear hw b2 b1
                          replace hc : wr.cell? ⟨B.gt, p + 1, none⟩ = some (.int .u64 6) := hc
                          by_cases ha : a = .EN
                          · have hb : ¬ b = .EN := fun h => hen ⟨ha, h⟩
                            subst ha
                            rw [decide_eq_false hb] at b4
                            replace hcp : wr.cell? ⟨B.gt, p, none⟩ = some (.int .u64 2) := hcp
                            clear hb hen han b3 b5 b6
                            go_wp2_with (go_at_call 110; refine (sqLen_any _ _ _ _ _ (by assumption)).mono ?_; rintro e w' ⟨rfl, rfl⟩)
                            go_roundg (B.n + 1 - (p + 1 + 1))
                            case measure => have := hk.out; omega
                            case rel => exact ⟨p + 1 + 1, by go_num, by omega, by omega, by rw [← HS.out]; exact hX, Nat.le_refl _⟩
                          · rw [decide_eq_false ha] at b3
                            by_cases ha2 : a = .AN
                            · have hb : ¬ b = .AN := fun h => han ⟨ha2, h⟩
                              rw [decide_eq_true ha2] at b5
                              rw [decide_eq_false hb] at b6
                              clear ha ha2 hb hen han b4
                              go_wp2_with (go_at_call 110; refine (sqLen_any _ _ _ _ _ (by assumption)).mono ?_; rintro e w' ⟨rfl, rfl⟩)
                              go_roundg (B.n + 1 - (p + 1 + 1))
                              case measure => have := hk.out; omega
                              case rel => exact ⟨p + 1 + 1, by go_num, by omega, by omega, by rw [← HS.out]; exact hX, Nat.le_refl _⟩
                            · rw [decide_eq_false ha2] at b5
                              clear ha ha2 hen han b4 b6
                              go_wp2_with (go_at_call 110; refine (sqLen_any _ _ _ _ _ (by assumption)).mono ?_; rintro e w' ⟨rfl, rfl⟩)
                              go_roundg (B.n + 1 - (p + 1 + 1))
                              case measure => have := hk.out; omega
                              case rel => exact ⟨p + 1 + 1, by go_num, by omega, by omega, by rw [← HS.out]; exact hX, Nat.le_refl _⟩

                    · rw [decide_eq_false hCS] at b2
                      have HS := Lib.hid (upTo_same (f := w4 l3) hjl (by rw [hw, ← HXE.out, if_neg (by rintro ⟨-, -, h | h⟩; exact hES h.1; exact hCS h.1)]))
                      clear hw hES hCS b3 b4 b5 b6
                      go_wp2_with (go_at_call 110; refine (sqLen_any _ _ _ _ _ (by assumption)).mono ?_; rintro e w' ⟨rfl, rfl⟩)
                      go_roundg (B.n + 1 - (p + 1 + 1))
                      case measure => have := hk.out; omega
                      case rel => exact ⟨p + 1 + 1, by go_num, by omega, by omega, by rw [← HS.out]; exact hX, Nat.le_refl _⟩
                · have hlt2 : ¬ (j : Int) < (B.n : Int) - 1 := by omega
                  have hX2 : QF B w wr (w4L l3) := by
                    rw [w4L, ← upTo_last (f := w4 l3) (k := j) (by rw [HLN3.out]; omega) (fun q hq hql => ?_)]
                    · exact hX
                    · obtain ⟨p, rfl⟩ : ∃ p, q = p + 1 := ⟨q - 1, by omega⟩
                      rw [w4, if_neg (fun h => by have h1 := HLN3.out; have h2 := h.1; omega)]
                  obtain ⟨l4, hl4⟩ : ∃ l4, l4 = w4L l3 := ⟨_, rfl⟩
                  rw [← hl4] at hX2
                  have HL4 := Lib.hid hl4
                  have HLN4 := Lib.hid hX2.ln
                  clear hX hl4 HR3
                  go_wp2_with (go_at_call 110; refine (sqLen_any _ _ _ _ _ (by assumption)).mono ?_; rintro e w' ⟨rfl, rfl⟩)
                  clear hlt hlt2 hj hj1 hk
                  -- W5
                  have HRD := Lib.hid (W5K.start l4)
                  have HR4 := Lib.hid hX2
                  clear hX2
                  go_loopg [185] (B.n + 1) (fun k i wr => ∃ (j : Nat) (m : List Cl), i = .int .i64 j ∧ j ≤ B.n ∧ QF B w wr m ∧ Hid (W5K l4 m j) ∧ Hid (B.n + 1 - j ≤ k))
                  case atStart => exact ⟨0, l4, rfl, by omega, HR4.out, HRD, Nat.le_refl _⟩
                  case round =>
                    obtain ⟨j, m, rfl, hj, hX, HW, hk⟩ := hrel
                    clear k2 k1
                    have k2 := hX.sq.cells.c2
                    by_cases hlt : j < B.n
                    · have hjl : j < l4.length := by rw [HLN4.out]; exact hlt
                      have hc := hX.cl j hlt
                      have hbq : ((cat m j).e2 == 4) = decide (cat m j = .ET) := Cl.e2_beq (cat m j) .ET
                      by_cases hx : cat m j = .ET
                      · rw [decide_eq_true hx] at hbq
                        have hml := hX.ln
                        have hec : ∀ c : Cl, [Cl.ET].contains c = decide (c = .ET) := fun c => by cases c <;> rfl
                        have hr1 := rlim_mem (p := [Cl.ET].contains) (l := m) (i := j) (by omega) (q := j)
                        have hge := rlim_ge [Cl.ET].contains m j
                        have hle := rlim_le [Cl.ET].contains m (i := j) (by omega)
                        have hgt : j < rlim [Cl.ET].contains m j := by
                          rw [rlim_yes (by omega) (by rw [hec, decide_eq_true hx])]
                          exact rlim_ge [Cl.ET].contains m (j + 1)
                        have hin : ∀ q, j ≤ q → q < rlim [Cl.ET].contains m j → cat m q = .ET := fun q h1 h2 => by
                          have := rlim_mem (p := [Cl.ET].contains) (l := m) (i := j) (by omega) h1 h2
                          rw [hec] at this; simpa using this
                        have hst : rlim [Cl.ET].contains m j < l4.length → cat m (rlim [Cl.ET].contains m j) ≠ .ET := fun h => by
                          have := rlim_stop (p := [Cl.ET].contains) (l := m) (i := j) (by rw [hml, ← HLN4.out]; exact h)
                          rw [hec] at this; simpa using this
                        obtain ⟨e, he⟩ : ∃ e, e = rlim [Cl.ET].contains m j := ⟨_, rfl⟩
                        rw [← he] at hge hle hgt hin hst
                        have HE := Lib.hid he
                        have hen := HW.out.ahead_en hjl hgt (by rw [HLN4.out]; omega) hin hst
                        have HIN := Lib.hid hin
                        have HX := Lib.hid hx
                        have hle2 : e ≤ B.n := by omega
                        have hce : e ≤ B.ct := by omega
                        clear hr1 hec hx hin hst he hge
                        have HML := Lib.hid hml
                        clear hml
                        by_cases hw : w5 l4 j = .EN
                        · have hor := hen.1 hw
                          have HFW : Hid (W5K l4 (setR m j e .EN) (j + 1)) := HW.out.fill hjl hgt (by rw [HLN4.out]; exact hle2) HIN.out hw (setR_length _ _ _ _) (fun q hq => cat_setR hq)
                          have hje : j + (e - j) = e := by omega
                          have HOR := Lib.hid hor
                          clear hw hen hor
                          by_cases hp : 0 < j ∧ cat m (j - 1) = .EN
                          · obtain ⟨hj0, hpe⟩ := hp
                            obtain ⟨j', rfl⟩ : ∃ j', j = j' + 1 := ⟨j - 1, by omega⟩
                            simp only [Nat.add_sub_cancel] at hpe
                            have hpi : ((j' + 1 : Nat) : Int) - 1 = j' := by omega
                            have bp : ((cat m j').e2 != 2) = false := by rw [hpe]; rfl
                            clear hpe HOR
                            go_wp2_with (first
                              | (go_at_call 111; refine (runLimit_upd (codes := [.ET]) hX.sq.cells.c2 hX.rt hX.ln hm (by simp) (by rfl) (by rfl) (by decide) (by omega)).mono ?_; rintro x w7 ⟨rfl, hu7⟩; rw [← HE.out]; have hX3 := hX.upd0 hu7; have a2 := hX3.sq.cells.c2; have a5 := hX3.sq.cells.c5; have a6 := hX3.sq.cells.c6; have ap := hX3.cl j' (by omega))
                              | (go_at_call 112; refine (setTypes_any B.gt (j' + 1) (e - (j' + 1)) _ m .EN _ hX3.rt (by rw [HML.out]; omega) (by rw [HML.out]; exact hm)).mono ?_; rintro x w8 ⟨rfl, hr8, hu8⟩; rw [hje] at hr8; have hX4 := hX3.turn hr8 hu8 (setR_length _ _ _ _)))
                            go_roundg (B.n + 1 - (j' + 1 + 1))
                            case measure => have := hk.out; omega
                            case rel => exact ⟨j' + 1 + 1, _, by go_num, by omega, hX4, HFW, Nat.le_refl _⟩
                          · by_cases hj0 : 0 < j
                            · have hpe : ¬ cat m (j - 1) = .EN := fun h => hp ⟨hj0, h⟩
                              have hee : e < B.n ∧ cat m e = .EN := by
                                rcases HOR.out with h | h
                                · exact absurd h hp
                                · exact ⟨by rw [← HLN4.out]; exact h.1, h.2⟩
                              obtain ⟨he1, he2⟩ := hee
                              obtain ⟨j', rfl⟩ : ∃ j', j = j' + 1 := ⟨j - 1, by omega⟩
                              simp only [Nat.add_sub_cancel] at hpe
                              have hpi : ((j' + 1 : Nat) : Int) - 1 = j' := by omega
                              have bp : ((cat m j').e2 != 2) = true := by
                                have := Cl.e2_beq (cat m j') .EN
                                rw [decide_eq_false hpe] at this
                                show (!((cat m j').e2 == 2)) = true
                                rw [show ((cat m j').e2 == 2) = false from this]; rfl
                              have be : ((cat m e).e2 == 2) = true := by rw [he2]; rfl
                              clear hpe hp he2 HOR
                              go_wp2_with (first
                                | (go_at_call 111; refine (runLimit_upd (codes := [.ET]) hX.sq.cells.c2 hX.rt hX.ln hm (by simp) (by rfl) (by rfl) (by decide) (by omega)).mono ?_; rintro x w7 ⟨rfl, hu7⟩; rw [← HE.out]; have hX3 := hX.upd0 hu7; have a2 := hX3.sq.cells.c2; have a5 := hX3.sq.cells.c5; have a6 := hX3.sq.cells.c6; have ap := hX3.cl j' (by omega); have ae := hX3.cl e he1)
                                | (go_at_call 112; refine (setTypes_any B.gt (j' + 1) (e - (j' + 1)) _ m .EN _ hX3.rt (by rw [HML.out]; omega) (by rw [HML.out]; exact hm)).mono ?_; rintro x w8 ⟨rfl, hr8, hu8⟩; rw [hje] at hr8; have hX4 := hX3.turn hr8 hu8 (setR_length _ _ _ _)))
                              go_roundg (B.n + 1 - (j' + 1 + 1))
                              case measure => have := hk.out; omega
                              case rel => exact ⟨j' + 1 + 1, _, by go_num, by omega, hX4, HFW, Nat.le_refl _⟩
                            · have hee : e < B.n ∧ cat m e = .EN := by
                                rcases HOR.out with h | h
                                · exact absurd h hp
                                · exact ⟨by rw [← HLN4.out]; exact h.1, h.2⟩
                              obtain ⟨he1, he2⟩ := hee
                              obtain rfl : j = 0 := by omega
                              have bs : (B.so.e2 != 2) = true := by rcases HSO.out with h | h <;> rw [h] <;> rfl
                              have be : ((cat m e).e2 == 2) = true := by rw [he2]; rfl
                              clear hp he2 HOR
                              go_wp2_with (first
                                | (go_at_call 111; refine (runLimit_upd (codes := [.ET]) hX.sq.cells.c2 hX.rt hX.ln hm (by simp) (by rfl) (by rfl) (by decide) (by omega)).mono ?_; rintro x w7 ⟨rfl, hu7⟩; rw [← HE.out]; have hX3 := hX.upd0 hu7; have a2 := hX3.sq.cells.c2; have a5 := hX3.sq.cells.c5; have a6 := hX3.sq.cells.c6; have ae := hX3.cl e he1)
                                | (go_at_call 112; refine (setTypes_any B.gt (0) (e - (0)) _ m .EN _ hX3.rt (by rw [HML.out]; omega) (by rw [HML.out]; exact hm)).mono ?_; rintro x w8 ⟨rfl, hr8, hu8⟩; rw [hje] at hr8; have hX4 := hX3.turn hr8 hu8 (setR_length _ _ _ _)))
                              go_roundg (B.n + 1 - (0 + 1))
                              case measure => have := hk.out; omega
                              case rel => exact ⟨0 + 1, _, by go_num, by omega, hX4, HFW, Nat.le_refl _⟩
                        · have hor := fun h => hw (hen.2 h)
                          have HFW : Hid (W5K l4 m (j + 1)) := HW.out.none hjl HX.out hw
                          have HOR := Lib.hid hor
                          clear hw hen hor
                          by_cases hj0 : 0 < j
                          · have hpe : ¬ cat m (j - 1) = .EN := fun h => HOR.out (.inl ⟨hj0, h⟩)
                            obtain ⟨j', rfl⟩ : ∃ j', j = j' + 1 := ⟨j - 1, by omega⟩
                            simp only [Nat.add_sub_cancel] at hpe
                            by_cases he1 : e < B.n
                            · have he2 : ¬ cat m e = .EN := fun h => HOR.out (.inr ⟨by rw [HLN4.out]; exact he1, h⟩)
                              have hpi : ((j' + 1 : Nat) : Int) - 1 = j' := by omega
                              have bp : ((cat m j').e2 != 2) = true := by
                                have := Cl.e2_beq (cat m j') .EN
                                rw [decide_eq_false hpe] at this
                                show (!((cat m j').e2 == 2)) = true
                                rw [show ((cat m j').e2 == 2) = false from this]; rfl
                              have be : ((cat m e).e2 == 2) = false := by
                                have := Cl.e2_beq (cat m e) .EN
                                rw [decide_eq_false he2] at this
                                exact this
                              clear hpe he2 HOR
                              go_wp2_with (first
                                | (go_at_call 111; refine (runLimit_upd (codes := [.ET]) hX.sq.cells.c2 hX.rt hX.ln hm (by simp) (by rfl) (by rfl) (by decide) (by omega)).mono ?_; rintro x w7 ⟨rfl, hu7⟩; rw [← HE.out]; have hX3 := hX.upd0 hu7; have a2 := hX3.sq.cells.c2; have a5 := hX3.sq.cells.c5; have a6 := hX3.sq.cells.c6; have ap := hX3.cl j' (by omega); have ae := hX3.cl e he1))
                              go_roundg (B.n + 1 - (j' + 1 + 1))
                              case measure => have := hk.out; omega
                              case rel => exact ⟨j' + 1 + 1, _, by go_num, by omega, hX3, HFW, Nat.le_refl _⟩
                            · have hpi : ((j' + 1 : Nat) : Int) - 1 = j' := by omega
                              have bp : ((cat m j').e2 != 2) = true := by
                                have := Cl.e2_beq (cat m j') .EN
                                rw [decide_eq_false hpe] at this
                                show (!((cat m j').e2 == 2)) = true
                                rw [show ((cat m j').e2 == 2) = false from this]; rfl
                              have beo : (B.eo.e2 == 2) = false := by rcases HEO.out with h | h <;> rw [h] <;> rfl
                              clear hpe HOR
                              go_wp2_with (first
                                | (go_at_call 111; refine (runLimit_upd (codes := [.ET]) hX.sq.cells.c2 hX.rt hX.ln hm (by simp) (by rfl) (by rfl) (by decide) (by omega)).mono ?_; rintro x w7 ⟨rfl, hu7⟩; rw [← HE.out]; have hX3 := hX.upd0 hu7; have a2 := hX3.sq.cells.c2; have a5 := hX3.sq.cells.c5; have a6 := hX3.sq.cells.c6; have ap := hX3.cl j' (by omega)))
                              go_roundg (B.n + 1 - (j' + 1 + 1))
                              case measure => have := hk.out; omega
                              case rel => exact ⟨j' + 1 + 1, _, by go_num, by omega, hX3, HFW, Nat.le_refl _⟩
                          · obtain rfl : j = 0 := by omega
                            by_cases he1 : e < B.n
                            · have he2 : ¬ cat m e = .EN := fun h => HOR.out (.inr ⟨by rw [HLN4.out]; exact he1, h⟩)
                              have bs : (B.so.e2 != 2) = true := by rcases HSO.out with h | h <;> rw [h] <;> rfl
                              have be : ((cat m e).e2 == 2) = false := by
                                have := Cl.e2_beq (cat m e) .EN
                                rw [decide_eq_false he2] at this
                                exact this
                              clear he2 HOR
                              go_wp2_with (first
                                | (go_at_call 111; refine (runLimit_upd (codes := [.ET]) hX.sq.cells.c2 hX.rt hX.ln hm (by simp) (by rfl) (by rfl) (by decide) (by omega)).mono ?_; rintro x w7 ⟨rfl, hu7⟩; rw [← HE.out]; have hX3 := hX.upd0 hu7; have a2 := hX3.sq.cells.c2; have a5 := hX3.sq.cells.c5; have a6 := hX3.sq.cells.c6; have ae := hX3.cl e he1))
                              go_roundg (B.n + 1 - (0 + 1))
                              case measure => have := hk.out; omega
                              case rel => exact ⟨0 + 1, _, by go_num, by omega, hX3, HFW, Nat.le_refl _⟩
                            · have bs : (B.so.e2 != 2) = true := by rcases HSO.out with h | h <;> rw [h] <;> rfl
                              have beo : (B.eo.e2 == 2) = false := by rcases HEO.out with h | h <;> rw [h] <;> rfl
                              clear HOR
                              go_wp2_with (first
                                | (go_at_call 111; refine (runLimit_upd (codes := [.ET]) hX.sq.cells.c2 hX.rt hX.ln hm (by simp) (by rfl) (by rfl) (by decide) (by omega)).mono ?_; rintro x w7 ⟨rfl, hu7⟩; rw [← HE.out]; have hX3 := hX.upd0 hu7; have a2 := hX3.sq.cells.c2; have a5 := hX3.sq.cells.c5; have a6 := hX3.sq.cells.c6))
                              go_roundg (B.n + 1 - (0 + 1))
                              case measure => have := hk.out; omega
                              case rel => exact ⟨0 + 1, _, by go_num, by omega, hX3, HFW, Nat.le_refl _⟩
                      · rw [decide_eq_false hx] at hbq
                        have HS := Lib.hid (HW.out.other hjl hx)
                        clear hx
                        go_wp2
                        go_roundg (B.n + 1 - (j + 1))
                        case measure => have := hk.out; omega
                        case rel => exact ⟨j + 1, m, by go_num, by omega, hX, HS, Nat.le_refl _⟩
                    · have hX2 : QF B w wr (w5L l4) := by
                        obtain rfl : j = B.n := by omega
                        have := HW.out
                        rw [← HLN4.out] at this
                        rw [← this.fin]; exact hX
                      obtain ⟨l5, hl5⟩ : ∃ l5, l5 = w5L l4 := ⟨_, rfl⟩
                      rw [← hl5] at hX2
                      have HL5 := Lib.hid hl5
                      have HLN5 := Lib.hid hX2.ln
                      have HR5 : Hid (QF B w wr (upTo (w6 l5) l5 0)) := by show QF _ _ _ _; rw [upTo_zero]; exact hX2
                      clear hX hl5 HR4 HW HRD
                      go_wp2
                      clear hX2 hlt hj hk
                      -- W6
                      go_loopg [248] (B.n + 1) (fun k i wr => ∃ (j : Nat), i = .int .i64 j ∧ j ≤ B.n ∧ QF B w wr (upTo (w6 l5) l5 j) ∧ Hid (B.n + 1 - j ≤ k))
                      case atStart => exact ⟨0, rfl, by omega, HR5.out, Nat.le_refl _⟩
                      case round =>
                        obtain ⟨j, rfl, hj, hX, hk⟩ := hrel
                        clear k2
                        have k2 := hX.sq.cells.c2
                        by_cases hlt : j < B.n
                        · have hjl : j < l5.length := by rw [HLN5.out]; exact hlt
                          have hc := hX.cl j hlt
                          rw [cat_upTo_at hjl] at hc
                          by_cases hx : cat l5 j = .ES ∨ cat l5 j = .ET ∨ cat l5 j = .CS
                          · have B1 : Hid ([Cl.ES, .ET, .CS].contains (cat l5 j) = true) := by
                              show _ = _
                              rcases hx with h | h | h <;> rw [h] <;> rfl
                            have HS := Lib.hid (upTo_set (f := w6 l5) (x := .ON) hjl (by rw [w6, if_pos hx]))
                            clear hx
                            go_wp2_with (go_at_call 106; refine (in_upd (c := cat l5 j) (l := [.ES, .ET, .CS]) true (by simp) (by rfl) rfl B1.out (by decide) _).mono ?_; rintro e w2 ⟨rfl, hu2⟩; have hX3 := hX.upd0 hu2; have k3 := hX3.sq.cells.c2; have hc3 := hX3.cl j hlt; have hf3 := hX3.rt.free j)
                            go_roundg (B.n + 1 - (j + 1))
                            case measure => have := hk.out; omega
                            case rel => exact ⟨j + 1, by go_num, by omega, by rw [← HS.out]; exact hX3.setT j .ON hlt, Nat.le_refl _⟩
                          · have B1 : Hid ([Cl.ES, .ET, .CS].contains (cat l5 j) = false) := by
                              show _ = _
                              simpa using hx
                            have HS := Lib.hid (upTo_same (f := w6 l5) hjl (by rw [w6, if_neg hx]))
                            clear hx
                            go_wp2_with (go_at_call 106; refine (in_upd (c := cat l5 j) (l := [.ES, .ET, .CS]) false (by simp) (by rfl) rfl B1.out (by decide) _).mono ?_; rintro e w2 ⟨rfl, hu2⟩; have hX3 := hX.upd0 hu2)
                            go_roundg (B.n + 1 - (j + 1))
                            case measure => have := hk.out; omega
                            case rel => exact ⟨j + 1, by go_num, by omega, by rw [← HS.out]; exact hX3, Nat.le_refl _⟩
                        · have hX2 : QF B w wr (w6L l5) := by
                            obtain rfl : j = B.n := by omega
                            rw [← HLN5.out, upTo_end] at hX; exact hX
                          obtain ⟨l6, hl6⟩ : ∃ l6, l6 = w6L l5 := ⟨_, rfl⟩
                          rw [← hl6] at hX2
                          have HL6 := Lib.hid hl6
                          have HLN6 := Lib.hid hX2.ln
                          have HIS : Hid (AllC isN l6) := by
                            show AllC _ _
                            rw [HL6.out, HL5.out, HL4.out, HL3.out, HL2.out, HL1.out]; exact w6L_isN HP.out HSO.out
                          have HR6 : Hid (QF B w wr (upTo (w7 l6 B.so) l6 0)) := by show QF _ _ _ _; rw [upTo_zero]; exact hX2
                          clear hX hl6 HR5
                          go_wp2
                          clear hX2 hlt hj hk
                          -- W7
                          go_loopg [268] (B.n + 1) (fun k i wr => ∃ (j : Nat), i = .int .i64 j ∧ j ≤ B.n ∧ QF B w wr (upTo (w7 l6 B.so) l6 j) ∧ Hid (B.n + 1 - j ≤ k))
                          case atStart => exact ⟨0, rfl, by omega, HR6.out, Nat.le_refl _⟩
                          case round =>
                            obtain ⟨j, rfl, hj, hX, hk⟩ := hrel
                            clear k2
                            have k2 := hX.sq.cells.c2
                            have k5 := hX.sq.cells.c5
                            by_cases hlt : j < B.n
                            · have hjl : j < l6.length := by rw [HLN6.out]; exact hlt
                              have hc := hX.cl j hlt
                              have hf := hX.rt.free j
                              have HCC := Lib.hid (cat_upTo_at (f := w7 l6 B.so) hjl)
                              rw [HCC.out] at hc
                              have hbq : ((cat l6 j).e2 == 2) = decide (cat l6 j = .EN) := Cl.e2_beq (cat l6 j) .EN
                              by_cases hx : cat l6 j = .EN
                              · rw [decide_eq_true hx] at hbq
                                have HX := Lib.hid hx
                                have HSB : Hid (sb (upTo (w7 l6 B.so) l6 j) B.so j = sb l6 B.so j) := sb_w7 j fun q hq => cat_upTo_lt (by omega) hq
                                clear hx
                                go_wp2
                                go_loopg [24, 25] (j + 1) (fun k u i wr2 => ∃ (p : Nat), u = .int .u64 B.so.e2 ∧ i = .int .i64 ((p : Int) - 1) ∧ p ≤ j ∧ wr2 = wr ∧ Hid (sb (upTo (w7 l6 B.so) l6 j) B.so p = sb l6 B.so j) ∧ Hid (p + 1 ≤ k))
                                case atStart => exact ⟨j, rfl, rfl, Nat.le_refl _, rfl, HSB, Nat.le_refl _⟩
                                case round =>
                                  obtain ⟨p, rfl, rfl, hp, rfl, HS, hk2⟩ := hrel
                                  by_cases hp0 : p = 0
                                  · subst hp0
                                    have hbs : (B.so.e2 == 0) = decide (B.so = .L) := Cl.e2_beq B.so .L
                                    by_cases hsl : B.so = .L
                                    · rw [decide_eq_true hsl] at hbs
                                      have HS2 := Lib.hid (upTo_set (f := w7 l6 B.so) (x := .L) hjl (by rw [w7, if_pos ⟨HX.out, by rw [← HS.out]; exact hsl⟩]))
                                      clear hsl
                                      go_wp2
                                      go_roundg (B.n + 1 - (j + 1))
                                      case measure => have := hk.out; omega
                                      case rel => exact ⟨j + 1, by go_num, by omega, by rw [← HS2.out]; exact hX.setT j .L hlt, Nat.le_refl _⟩
                                    · rw [decide_eq_false hsl] at hbs
                                      have HS2 := Lib.hid (upTo_same (f := w7 l6 B.so) hjl (by rw [w7, if_neg (fun h => hsl (by have := h.2; rw [← HS.out] at this; exact this))]))
                                      clear hsl
                                      go_wp2
                                      go_roundg (B.n + 1 - (j + 1))
                                      case measure => have := hk.out; omega
                                      case rel => exact ⟨j + 1, by go_num, by omega, by rw [← HS2.out]; exact hX, Nat.le_refl _⟩
                                  · obtain ⟨p, rfl⟩ : ∃ p', p = p' + 1 := ⟨p - 1, by omega⟩
                                    have hpp : ((p + 1 : Nat) : Int) - 1 = p := by omega
                                    have hcp := hX.cl p (by omega)
                                    have hin2 : isN (cat (upTo (w7 l6 B.so) l6 j) p) = true := by
                                      rw [cat_upTo_lt (by omega) (by omega)]
                                      exact w7_isN HIS.out p (by omega)
                                    obtain ⟨x, hx⟩ : ∃ x, x = cat (upTo (w7 l6 B.so) l6 j) p := ⟨_, rfl⟩
                                    rw [← hx] at hcp hin2
                                    have hs := HS.out
                                    rw [sb, ← hx] at hs
                                    simp only [hpp]
                                    clear hx
                                    by_cases hL : x = .L
                                    · subst hL
                                      rw [if_pos (.inl rfl)] at hs
                                      have HS2 := Lib.hid (upTo_set (f := w7 l6 B.so) (x := .L) hjl (by rw [w7, if_pos ⟨HX.out, hs.symm⟩]))
                                      replace hcp : wr.cell? ⟨B.gt, p, none⟩ = some (.int .u64 0) := hcp
                                      clear hs hin2
                                      go_wp2
                                      go_roundg (B.n + 1 - (j + 1))
                                      case measure => have := hk.out; omega
                                      case rel => exact ⟨j + 1, by go_num, by omega, by rw [← HS2.out]; exact hX.setT j .L hlt, Nat.le_refl _⟩
                                    · by_cases hR : x = .R
                                      · subst hR
                                        rw [if_pos (.inr (.inl rfl))] at hs
                                        have HS2 := Lib.hid (upTo_same (f := w7 l6 B.so) hjl (by rw [w7, if_neg (fun h => absurd (hs.trans h.2) (by decide))]))
                                        replace hcp : wr.cell? ⟨B.gt, p, none⟩ = some (.int .u64 1) := hcp
                                        clear hs hin2 hL
                                        go_wp2
                                        go_roundg (B.n + 1 - (j + 1))
                                        case measure => have := hk.out; omega
                                        case rel => exact ⟨j + 1, by go_num, by omega, by rw [← HS2.out]; exact hX, Nat.le_refl _⟩
                                      · have hA : x ≠ .AL := by rintro rfl; exact absurd hin2 (by decide)
                                        rw [if_neg (by simp [hL, hR, hA])] at hs
                                        have b1 : (x.e2 == 0) = false := by have := Cl.e2_beq x .L; rw [decide_eq_false hL] at this; exact this
                                        have b2 : (x.e2 == 1) = false := by have := Cl.e2_beq x .R; rw [decide_eq_false hR] at this; exact this
                                        have HS3 := Lib.hid hs
                                        clear hs hin2 hL hR hA
                                        go_wp2
                                        go_roundg (p + 1)
                                        case measure => have := hk2.out; omega
                                        case rel => exact ⟨p, rfl, by go_num, by omega, rfl, HS3, Nat.le_refl _⟩
                              · rw [decide_eq_false hx] at hbq
                                have HS2 : Hid (upTo (w7 l6 B.so) l6 j = upTo (w7 l6 B.so) l6 (j + 1)) := upTo_same (f := w7 l6 B.so) hjl (by rw [w7, if_neg (fun h => hx h.1)])
                                clear hx
                                go_wp2
                                go_roundg (B.n + 1 - (j + 1))
                                case measure => have := hk.out; omega
                                case rel => exact ⟨j + 1, by go_num, by omega, by rw [← HS2.out]; exact hX, Nat.le_refl _⟩
                            · have hX2 : QF B w wr (weakP l B.so) := by
                                obtain rfl : j = B.n := by omega
                                rw [← HLN6.out, upTo_end] at hX
                                rw [weakP, weakR, w7L, ← HL1.out, ← HL2.out, ← HL3.out, ← HL4.out, ← HL5.out, ← HL6.out]; exact hX
                              clear hX
                              go_wp2
                              go_end0
                              exact ⟨rfl, hX2⟩
end Go.Proofs.YtjahmnenfknjgaaGreatDoor
