/- The package's resolveNeutralTypes, by its contract. -/
import Derived.Test.YtjahmnenfknjgaaGreatDoorG8
import Derived.Test.YtjahmnenfknjgaaGreatDoorG6
import Derived.Deep.DeepCutAuto
set_option linter.unusedVariables false
set_option linter.unusedSimpArgs false
namespace Go.Proofs.YtjahmnenfknjgaaGreatDoor
open Go.RowKit

/-- The classes that N1 and N2 meet; those that they resolve. -/
def neuC : List Cl := [.L, .R, .EN, .AN, .B, .S, .WS, .ON, .RLI, .LRI, .FSI, .PDI]
def niC : List Cl := [.B, .S, .WS, .ON, .RLI, .LRI, .FSI, .PDI]
theorem neuC_isN (c : Cl) (h : isN c = true) : neuC.contains c = true := by revert h; cases c <;> decide
theorem niC_isNI (c : Cl) : niC.contains c = c.isNI := by cases c <;> rfl

set_option maxHeartbeats 16000000 in
set_option maxRecDepth 100000 in
theorem neutral_any (B : QB) (l : List Cl) (w : World) (hX : QF B w w l) (hl : AllC isN l) (hso : B.so = .L ∨ B.so = .R) (heo : B.eo = .L ∨ B.eo = .R) (hlv0 : 0 ≤ B.lv) (hlv1 : B.lv ≤ 127) (hct : B.n ≤ B.ct) (hm : B.n ≤ 2147483647) :
    Calls Tryz.prog 87 #[.pointer (some ⟨B.q, 0, none⟩)] w fun e w' => e = .returned (.tuple #[]) ∧ QF B w w' (neuS l B.lv B.so B.eo) := by
  have HC : Hid (∀ j, j < B.n → neuC.contains (cat l j) = true) := fun j hj => neuC_isN _ (hl j (by rw [hX.ln]; exact hj))
  have HP := Lib.hid hl
  have HSO := Lib.hid hso
  have HEO := Lib.hid heo
  have HLN := Lib.hid hX.ln
  clear hl hso heo
  go_enter Tryz.func87, Tryz.ntmps87
  go_wp2_with (go_at_call 109; refine (assertOnly_upd (codes := neuC) hX.sq.cells.c2 hX.rt hX.ln hm (by simp) (by rfl) (by rfl) (by decide) HC.out).mono ?_; rintro e w1 ⟨rfl, hu1⟩; have hX1 := hX.upd0 hu1; have k2 := hX1.sq.cells.c2)
  have HR0 := Lib.hid hX1
  clear hX hu1 k2 hX1
  go_loopg [17] (B.n + 1) (fun k i wr => ∃ (j : Nat) (m : List Cl), i = .int .i64 j ∧ j ≤ B.n ∧ QF B w wr m ∧ Hid (N5K l B.lv B.so B.eo m j) ∧ Hid (B.n + 1 - j ≤ k))
  case atStart => exact ⟨0, l, rfl, by omega, HR0.out, N5K.start _ _ _ _, Nat.le_refl _⟩
  case round =>
    obtain ⟨j, m, rfl, hj, hX, HW, hk⟩ := hrel
    have k2 := hX.sq.cells.c2
    by_cases hlt : j < B.n
    · have hjl : j < l.length := by rw [HLN.out]; exact hlt
      have hc := hX.cl j hlt
      obtain ⟨x, hx⟩ : ∃ x, x = cat m j := ⟨_, rfl⟩
      rw [← hx] at hc
      have HX := Lib.hid hx
      clear hx
      go_upto_region 4 with fail
      iterate 9 go_step
      go_cut [23] (fun v wx => v = .bool x.isNI ∧ wx = wr)
      case first =>
        clear hc HX
        cases x <;> (simp only [Cl.e2, Cl.isNI]; go_wp2; go_meet; case rel => exact ⟨rfl, rfl⟩)
      case rest =>
        obtain ⟨rfl, rfl⟩ := hcut
        cases hni : x.isNI with
        | false =>
          have HS := Lib.hid (HW.out.other hjl (by rw [← HX.out]; exact hni))
          clear hni
          go_wp2
          go_roundg (B.n + 1 - (j + 1))
          case measure => have := hk.out; omega
          case rel => exact ⟨j + 1, m, by go_num, by omega, hX, HS, Nat.le_refl _⟩
        | true =>
          have hml := hX.ln
          have hge := rlim_ge niC.contains m j
          have hle := rlim_le niC.contains m (i := j) (by omega)
          have hgt : j < rlim niC.contains m j := by
            rw [rlim_yes (by omega) (by rw [niC_isNI, ← HX.out]; exact hni)]
            exact rlim_ge niC.contains m (j + 1)
          have hin : ∀ q, j ≤ q → q < rlim niC.contains m j → (cat m q).isNI = true := fun q h1 h2 => by
            have := rlim_mem (p := niC.contains) (l := m) (i := j) (by omega) h1 h2
            rw [niC_isNI] at this; exact this
          have hst : rlim niC.contains m j < l.length → (cat m (rlim niC.contains m j)).isNI = false := fun h => by
            have := rlim_stop (p := niC.contains) (l := m) (i := j) (by rw [hml, ← HLN.out]; exact h)
            rw [niC_isNI] at this; exact this
          obtain ⟨e, he⟩ : ∃ e, e = rlim niC.contains m j := ⟨_, rfl⟩
          rw [← he] at hge hle hgt hin hst
          have HE := Lib.hid he
          have hle2 : e ≤ B.n := by omega
          have hel : e ≤ l.length := by rw [HLN.out]; exact hle2
          have HR := Lib.hid (HW.out.run HSO.out hjl hgt hel hin hst)
          have HIN := Lib.hid hin
          have HST := Lib.hid hst
          have HML := Lib.hid hml
          clear hin hst he hge hml hc hni
          go_upto_if 38 with (first
            | (go_at_call 111; refine (runLimit_upd (codes := niC) hX.sq.cells.c2 hX.rt hX.ln hm (by simp) (by rfl) (by rfl) (by decide) (by omega)).mono ?_; rintro y w7 ⟨rfl, hu7⟩; rw [← HE.out]; have hX3 := hX.upd0 hu7))
          have k2 := hX3.sq.cells.c2
          have k5 := hX3.sq.cells.c5
          have HX3 := Lib.hid hX3
          go_cut [6] (fun v wx => v = .int .u64 (nb l B.so j).e2 ∧ QF B w wx m)
          case first =>
            by_cases hj0 : j = 0
            · subst hj0
              go_wp2
              go_meet
              case rel => exact ⟨rfl, HX3.out⟩
            · obtain ⟨-, hp1, hp2, hp3⟩ := (HR.out.lead).resolve_left hj0
              obtain ⟨p, rfl⟩ : ∃ p, j = p + 1 := ⟨j - 1, by omega⟩
              simp only [Nat.add_sub_cancel] at hp1 hp2 hp3
              have hpi : ((p + 1 : Nat) : Int) - 1 = p := by omega
              have hcp := hX3.cl p (by omega)
              have hpN : isN (cat m p) = true := by rw [hp2]; exact HP.out p (by omega)
              obtain ⟨y, hy⟩ : ∃ y, y = cat m p := ⟨_, rfl⟩
              rw [← hy] at hcp hp1 hp3 hpN
              have HN3 := Lib.hid hp3
              clear hp2 hp3 hy hj0
              have hy4 : y = .L ∨ y = .R ∨ y = .EN ∨ y = .AN := by revert hpN hp1; cases y <;> simp [isN, Cl.isNI]
              clear hpN hp1
              rcases hy4 with rfl | rfl | rfl | rfl
              · go_wp2_with (go_at_call 106; refine (in_upd (c := .L) (l := [.AN, .EN]) false (by simp) (by rfl) rfl rfl (by decide) _).mono ?_; rintro z w8 ⟨rfl, hu8⟩; have hX4 := hX3.upd0 hu8)
                go_meet
                case rel => exact ⟨by rw [HN3.out]; rfl, hX4⟩
              · go_wp2_with (go_at_call 106; refine (in_upd (c := .R) (l := [.AN, .EN]) false (by simp) (by rfl) rfl rfl (by decide) _).mono ?_; rintro z w8 ⟨rfl, hu8⟩; have hX4 := hX3.upd0 hu8)
                go_meet
                case rel => exact ⟨by rw [HN3.out]; rfl, hX4⟩
              · go_wp2_with (go_at_call 106; refine (in_upd (c := .EN) (l := [.AN, .EN]) true (by simp) (by rfl) rfl rfl (by decide) _).mono ?_; rintro z w8 ⟨rfl, hu8⟩; have hX4 := hX3.upd0 hu8)
                go_meet
                case rel => exact ⟨by rw [HN3.out]; rfl, hX4⟩
              · go_wp2_with (go_at_call 106; refine (in_upd (c := .AN) (l := [.AN, .EN]) true (by simp) (by rfl) rfl rfl (by decide) _).mono ?_; rintro z w8 ⟨rfl, hu8⟩; have hX4 := hX3.upd0 hu8)
                go_meet
                case rel => exact ⟨by rw [HN3.out]; rfl, hX4⟩
          case rest =>
            clear k2 k5 hX3 hu7 hX HX3
            rename_i wc hcut
            obtain ⟨rfl, hX5⟩ := hcut
            have k2 := hX5.sq.cells.c2
            have k6 := hX5.sq.cells.c6
            have HX5 := Lib.hid hX5
            go_upto_if 60 with fail
            go_cut [7] (fun v wx => v = .int .u64 (na l B.eo e).e2 ∧ QF B w wx m)
            case first =>
              by_cases he0 : e = B.n
              · have HNA : Hid (na l B.eo e = B.eo) := by
                  rcases HR.out.trail with h | h
                  · exact h.2
                  · exact absurd h.1 (by rw [HLN.out]; omega)
                have hb : ((e : Int) == (B.n : Int)) = true := by rw [he0]; simp
                clear he0
                go_wp2
                go_meet
                case rel => exact ⟨by rw [HNA.out], HX5.out⟩
              · have helt : e < B.n := by omega
                obtain ⟨-, hp3, hp2⟩ := (HR.out.trail).resolve_left (fun h => he0 (by rw [h.1, HLN.out]))
                have hp1 := HST.out (by rw [HLN.out]; exact helt)
                have hcp := hX5.cl e helt
                have hpN : isN (cat m e) = true := by rw [hp2]; exact HP.out e (by rw [HLN.out]; exact helt)
                obtain ⟨y, hy⟩ : ∃ y, y = cat m e := ⟨_, rfl⟩
                rw [← hy] at hcp hp1 hp3 hpN
                have HN3 := Lib.hid hp3
                have hb : ((e : Int) == (B.n : Int)) = false := by simp; omega
                clear hp2 hp3 hy he0
                have hy4 : y = .L ∨ y = .R ∨ y = .EN ∨ y = .AN := by revert hpN hp1; cases y <;> simp [isN, Cl.isNI]
                clear hpN hp1
                rcases hy4 with rfl | rfl | rfl | rfl
                · go_wp2_with (go_at_call 106; refine (in_upd (c := .L) (l := [.AN, .EN]) false (by simp) (by rfl) rfl rfl (by decide) _).mono ?_; rintro z w8 ⟨rfl, hu8⟩; have hX4 := hX5.upd0 hu8)
                  go_meet
                  case rel => exact ⟨by rw [HN3.out]; rfl, hX4⟩
                · go_wp2_with (go_at_call 106; refine (in_upd (c := .R) (l := [.AN, .EN]) false (by simp) (by rfl) rfl rfl (by decide) _).mono ?_; rintro z w8 ⟨rfl, hu8⟩; have hX4 := hX5.upd0 hu8)
                  go_meet
                  case rel => exact ⟨by rw [HN3.out]; rfl, hX4⟩
                · go_wp2_with (go_at_call 106; refine (in_upd (c := .EN) (l := [.AN, .EN]) true (by simp) (by rfl) rfl rfl (by decide) _).mono ?_; rintro z w8 ⟨rfl, hu8⟩; have hX4 := hX5.upd0 hu8)
                  go_meet
                  case rel => exact ⟨by rw [HN3.out]; rfl, hX4⟩
                · go_wp2_with (go_at_call 106; refine (in_upd (c := .AN) (l := [.AN, .EN]) true (by simp) (by rfl) rfl rfl (by decide) _).mono ?_; rintro z w8 ⟨rfl, hu8⟩; have hX4 := hX5.upd0 hu8)
                  go_meet
                  case rel => exact ⟨by rw [HN3.out]; rfl, hX4⟩
            case rest =>
              clear k2 k6 hX5 HX5
              rename_i wd hcut
              obtain ⟨rfl, hX6⟩ := hcut
              have k2 := hX6.sq.cells.c2
              have k4 := hX6.sq.cells.c4
              have hje : j + (e - j) = e := by omega
              have hce : e ≤ B.ct := by omega
              have hbx : ((nb l B.so j).e2 == (na l B.eo e).e2) = decide (nb l B.so j = na l B.eo e) := Cl.e2_beq _ _
              by_cases hq : nb l B.so j = na l B.eo e
              · rw [decide_eq_true hq] at hbx
                have HFW : Hid (N5K l B.lv B.so B.eo (setR m j e (nb l B.so j)) (j + 1)) := HW.out.fill hjl hgt hel HR.out HIN.out HSO.out HST.out (by rw [if_pos hq]) (setR_length _ _ _ _) (fun q hq => cat_setR hq)
                clear hq
                go_wp2_with (go_at_call 112; refine (setTypes_any B.gt j (e - j) _ m (nb l B.so j) _ hX6.rt (by rw [HML.out]; omega) (by rw [HML.out]; exact hm)).mono ?_; rintro x w8 ⟨rfl, hr8, hu8⟩; rw [hje] at hr8; have hX7 := hX6.turn hr8 hu8 (setR_length _ _ _ _))
                go_roundg (B.n + 1 - (j + 1))
                case measure => have := hk.out; omega
                case rel => exact ⟨j + 1, _, by go_num, by omega, hX7, HFW, Nat.le_refl _⟩
              · rw [decide_eq_false hq] at hbx
                have HFW : Hid (N5K l B.lv B.so B.eo (setR m j e (dirOf B.lv)) (j + 1)) := HW.out.fill hjl hgt hel HR.out HIN.out HSO.out HST.out (by rw [if_neg hq]) (setR_length _ _ _ _) (fun q hq => cat_setR hq)
                clear hq
                go_wp2_with (first
                  | (go_at_call 116; refine (typeFor_any B.lv hlv0 hlv1 _).mono ?_; rintro z w' ⟨rfl, rfl⟩)
                  | (go_at_call 112; refine (setTypes_any B.gt j (e - j) _ m (dirOf B.lv) _ hX6.rt (by rw [HML.out]; omega) (by rw [HML.out]; exact hm)).mono ?_; rintro x w8 ⟨rfl, hr8, hu8⟩; rw [hje] at hr8; have hX7 := hX6.turn hr8 hu8 (setR_length _ _ _ _)))
                go_roundg (B.n + 1 - (j + 1))
                case measure => have := hk.out; omega
                case rel => exact ⟨j + 1, _, by go_num, by omega, hX7, HFW, Nat.le_refl _⟩
    · have hX2 : QF B w wr (neuS l B.lv B.so B.eo) := by
        obtain rfl : j = B.n := by omega
        have := HW.out
        rw [← HLN.out] at this
        rw [← this.fin]; exact hX
      clear hX
      go_wp2
      go_end0
      exact ⟨rfl, hX2⟩
end Go.Proofs.YtjahmnenfknjgaaGreatDoor
namespace Go.Proofs.YtjahmnenfknjgaaGreatDoor
open Go.RowKit

def remC : List Cl := [.LRE, .RLE, .LRO, .RLO, .PDF, .BN]
theorem remC_isRem (c : Cl) : remC.contains c = c.isRem := by cases c <;> rfl
theorem ownT_yes {cs T : List Cl} {q : Nat} (h : (cat cs q).isRem = true) : ownT cs T q = cat cs q := by rw [ownT, if_pos h]
theorem ownT_no {cs T : List Cl} {q : Nat} (h : (cat cs q).isRem = false) : ownT cs T q = cat T q := by rw [ownT, if_neg (by rw [h]; simp)]

set_option maxHeartbeats 8000000 in
set_option maxRecDepth 100000 in
theorem assign_any (b g0 k0 gT kT gL kL : Nat) (pt pv mm ss : Value) (base : Int) (cs T : List Cl) (V : List Int) (w : World)
    (hp : Par w b (.slice (some ⟨g0, 0, none⟩) cs.length k0) pt pv base (.slice (some ⟨gT, 0, none⟩) cs.length kT) (.slice (some ⟨gL, 0, none⟩) cs.length kL) mm ss)
    (hc0 : Row w g0 77 (clsU cs)) (hT : Row w gT 77 (clsU T)) (hV : Row w gL 112 (nums .i8 V)) (h0T : g0 ≠ gT) (hTl : T.length = cs.length) (hVl : V.length = cs.length) (hn0 : 0 < cs.length)
    (hpos : ∀ q, q < cs.length → (cat cs q).isRem = false → 0 ≤ nth V q) (hbase : base = 0 ∨ base = 1) (hm : cs.length ≤ 2147483647) :
    Calls Tryz.prog 123 #[.pointer (some ⟨b, 0, none⟩)] w fun e w' => e = .returned (.tuple #[]) ∧ Row w' gT 77 (clsU (ownTs cs T)) ∧ Row w' gL 112 (nums .i8 (lents cs V base)) ∧ Upd [gT, gL] w w' := by
  have nL0 : g0 ≠ gL := hc0.ne_type hV (by decide)
  have nTL : gT ≠ gL := hT.ne_type hV (by decide)
  have nbT : b ≠ gT := Row.ne_type hp hT (by decide)
  have nbL : b ≠ gL := Row.ne_type hp hV (by decide)
  have HTL := Lib.hid hTl
  have HVL := Lib.hid hVl
  have HP := Lib.hid hpos
  have HK0 : Hid (Row w gL 112 (nums .i8 (klvK cs V 0))) := by show Row _ _ _ _; rw [klvK_zero hVl]; exact hV
  have HT0 : Hid (Row w gT 77 (clsU (upTo (ownT cs T) T 0))) := by show Row _ _ _ _; rw [upTo_zero]; exact hT
  have c0 := hp.cells.c0
  clear hTl hVl hpos hT hV
  go_enter Tryz.func123, Tryz.ntmps123
  go_wp2
  clear c0
  go_loopg [10] (cs.length + 1) (fun k i wr => ∃ (j : Nat), i = .int .i64 j ∧ j ≤ cs.length ∧ Row wr gT 77 (clsU (upTo (ownT cs T) T j)) ∧ Row wr gL 112 (nums .i8 (klvK cs V j)) ∧ Upd [gT, gL] w wr ∧ Hid (cs.length + 1 - j ≤ k))
  case atStart => exact ⟨0, rfl, by omega, HT0.out, HK0.out, Upd.refl _ _, Nat.le_refl _⟩
  case round =>
    obtain ⟨j, rfl, hj, hTr, hVr, hu, hk⟩ := hrel
    by_cases hlt : j < cs.length
    · have hjT : j < T.length := by rw [HTL.out]; exact hlt
      have hcc := (hc0.upd hu (by simp; omega)).cls j hlt
      cases hr : (cat cs j).isRem with
      | true =>
        have B1 : Hid (remC.contains (cat cs j) = true) := (remC_isRem _).trans hr
        have HS := Lib.hid (upTo_set (f := ownT cs T) hjT (ownT_yes hr))
        have HS2 := Lib.hid (klvK_set (V := V) hlt hr)
        clear hr
        go_wp2_with (go_at_call 106; refine (in_upd (c := cat cs j) (l := remC) true (by simp) (by rfl) rfl B1.out (by decide) _).mono ?_; rintro e w2 ⟨rfl, hu2⟩; have hTr2 := hTr.upd hu2 (by simp); have hVr2 := hVr.upd hu2 (by simp); have hp2 := Par.upd hp (hu.then hu2) (by simp; omega); have c4 := hp2.cells.c4; have c5 := hp2.cells.c5; have ht := hTr2.cls j (by rw [upTo_length]; exact hjT); have htf := hTr2.free j; have hv := hVr2.num j (by rw [klvK_length]; exact hlt); have hvf := hVr2.free j)
        go_roundg (cs.length + 1 - (j + 1))
        case measure => have := hk.out; omega
        case rel =>
          refine ⟨j + 1, by go_num, by omega, ?_, ?_, ((hu.then hu2).setCell (p := ⟨gT, j, none⟩) (.inl (by simp)) _).setCell (p := ⟨gL, j, none⟩) (.inl (by simp)) _, Nat.le_refl _⟩
          · rw [← HS.out]; exact (hTr2.setCls j _ (by rw [upTo_length]; exact hjT)).other (p := ⟨gL, j, none⟩) nTL _
          · rw [← HS2.out]; exact (hVr2.other (p := ⟨gT, j, none⟩) (fun e => nTL e.symm) _).setNum j _ (by rw [klvK_length]; exact hlt)
      | false =>
        have B1 : Hid (remC.contains (cat cs j) = false) := (remC_isRem _).trans hr
        have HS := Lib.hid (upTo_same (f := ownT cs T) hjT (ownT_no hr))
        have HS2 := Lib.hid (klvK_same (V := V) hlt hr)
        clear hr
        go_wp2_with (go_at_call 106; refine (in_upd (c := cat cs j) (l := remC) false (by simp) (by rfl) rfl B1.out (by decide) _).mono ?_; rintro e w2 ⟨rfl, hu2⟩)
        go_roundg (cs.length + 1 - (j + 1))
        case measure => have := hk.out; omega
        case rel => exact ⟨j + 1, by go_num, by omega, by rw [← HS.out]; exact hTr.upd hu2 (by simp), by rw [← HS2.out]; exact hVr.upd hu2 (by simp), hu.then hu2, Nat.le_refl _⟩
    · have HTE : Hid (Row wr gT 77 (clsU (ownTs cs T))) := by
        obtain rfl : j = cs.length := by omega
        show Row _ _ _ _
        rw [← HTL.out, upTo_end] at hTr; exact hTr
      have hVK : Row wr gL 112 (nums .i8 (lentK cs V base 0)) := by
        obtain rfl : j = cs.length := by omega
        rw [lentK_zero, ← klvK_end]; exact hVr
      have hpr := Par.upd hp hu (by simp; omega)
      have c3 := hpr.cells.c3
      have c5 := hpr.cells.c5
      have hv := hVK.num 0 (by rw [lentK_length]; exact hn0)
      have hvf := hVK.free 0
      rw [nth_lentK hn0, if_neg (Nat.lt_irrefl 0), nth_klv hn0] at hv
      clear hTr hVr
      obtain ⟨v0, hv0e⟩ : ∃ v0, v0 = if (cat cs 0).isRem = true then -1 else nth V 0 := ⟨_, rfl⟩
      rw [← hv0e] at hv
      have HV0 := Lib.hid hv0e
      clear hv0e
      go_upto_if 38 with fail
      go_cut [] (fun wx => Row wx gL 112 (nums .i8 (lentK cs V base 1)) ∧ Upd [gL] wr wx)
      case first =>
        cases hr : (cat cs 0).isRem with
        | true =>
          have HS := Lib.hid (lentK_set (cs := cs) (V := V) (base := base) (x := base) hn0 (by rw [lent, if_pos hr]))
          have hb0 : (v0 == -1) = true := by rw [HV0.out, hr]; rfl
          clear hr
          go_wp2
          go_region
          all_goals (try go_wp2)
          all_goals
            go_meet
            case rel => exact ⟨by rw [← HS.out]; exact (hVK.drew).setNum 0 base (by rw [lentK_length]; exact hn0), ((Upd.refl [gL] wr).drew).setCell (p := ⟨gL, 0, none⟩) (.inl (by simp)) _⟩
        | false =>
          have HS := Lib.hid (lentK_same (cs := cs) (V := V) (base := base) hn0 (by rw [lent, nth_klv hn0, hr]; rfl))
          have hv0 := HP.out 0 hn0 hr
          have hb0 : (v0 == -1) = false := by rw [HV0.out, hr]; simp; omega
          clear hr hv0
          go_wp2
          go_meet
          case rel => exact ⟨by rw [← HS.out]; exact hVK, Upd.refl _ _⟩
      case rest =>
        obtain ⟨hV1, hu1⟩ := hcut
        have HU := Lib.hid hu
        have HPR := Lib.hid hpr
        clear hv hvf c3 c5 hVK hu hpr hk hj hlt
        go_wp2
        go_loopg [4] (cs.length + 1) (fun k i wx => ∃ (j : Nat), i = .int .i64 j ∧ 1 ≤ j ∧ j ≤ cs.length ∧ Row wx gL 112 (nums .i8 (lentK cs V base j)) ∧ Upd [gL] wr wx ∧ Hid (cs.length + 1 - j ≤ k))
        case atStart => exact ⟨1, rfl, by omega, by omega, hV1, hu1, by show _ ≤ _; omega⟩
        case round =>
          clear hV1 hu1
          obtain ⟨j, rfl, hj1, hj, hVj, hu1, hk⟩ := hrel
          have hpj := Par.upd HPR.out hu1 (by simpa using nbL)
          have c0 := hpj.cells.c0
          have c5 := hpj.cells.c5
          by_cases hlt : j < cs.length
          · obtain ⟨i, rfl⟩ : ∃ i, j = i + 1 := ⟨j - 1, by omega⟩
            have hii : ((i + 1 : Nat) : Int) - 1 = i := by omega
            have hvj := hVj.num (i + 1) (by rw [lentK_length]; exact hlt)
            rw [nth_lentK hlt, if_neg (Nat.lt_irrefl _), nth_klv hlt] at hvj
            have hvi := hVj.num i (by rw [lentK_length]; omega)
            rw [nth_lentK (by omega), if_pos (by omega)] at hvi
            have hvf := hVj.free (i + 1)
            obtain ⟨v1, hv1e⟩ : ∃ v1, v1 = if (cat cs (i + 1)).isRem = true then -1 else nth V (i + 1) := ⟨_, rfl⟩
            rw [← hv1e] at hvj
            have HV1 := Lib.hid hv1e
            clear hv1e
            cases hr : (cat cs (i + 1)).isRem with
            | true =>
              have HS := Lib.hid (lentK_set (cs := cs) (V := V) (base := base) (x := lent cs V base i) hlt (by rw [lent, if_pos hr]))
              have hb0 : (v1 == -1) = true := by rw [HV1.out, hr]; rfl
              clear hr
              go_wp2
              go_region
              all_goals (try go_wp2)
              all_goals
                go_roundg (cs.length + 1 - (i + 1 + 1))
                case measure => have := hk.out; omega
                case rel => exact ⟨i + 1 + 1, by go_num, by omega, by omega, by rw [← HS.out]; exact (hVj.drew).setNum (i + 1) _ (by rw [lentK_length]; exact hlt), (hu1.drew).setCell (p := ⟨gL, i + 1, none⟩) (.inl (by simp)) _, Nat.le_refl _⟩
            | false =>
              have HS := Lib.hid (lentK_same (cs := cs) (V := V) (base := base) hlt (by rw [lent, nth_klv hlt, hr]; rfl))
              have hv0 := HP.out (i + 1) hlt hr
              have hb0 : (v1 == -1) = false := by rw [HV1.out, hr]; simp; omega
              clear hr hv0
              go_wp2
              go_roundg (cs.length + 1 - (i + 1 + 1))
              case measure => have := hk.out; omega
              case rel => exact ⟨i + 1 + 1, by go_num, by omega, by omega, by rw [← HS.out]; exact hVj, hu1, Nat.le_refl _⟩
          · obtain rfl : j = cs.length := by omega
            rw [lentK_end] at hVj
            go_wp2
            go_end0
            exact ⟨rfl, HTE.out.upd hu1 (by simpa using nTL), hVj, HU.out.trans (hu1.mono (by simp))⟩
end Go.Proofs.YtjahmnenfknjgaaGreatDoor
