/- validateLineBreaks finds nothing at ends of lines that ascend to the end of the text. -/
import Derived.Test.YtjahmnenfknjgaaGreatDoorG6
import Derived.Test.YtjahmnenfknjgaaGreatDoorG1
import Derived.Test.YtjahmnenfknjgaaGreatDoorK1
import Derived.Test.YtjahmnenfknjgaaGreatDoorG25
import Derived.Test.YtjahmnenfknjgaaGreatDoorG8
import Derived.Test.YtjahmnenfknjgaaGreatDoorG11
import Derived.Laws.CopyOwn
set_option linter.unusedVariables false
set_option linter.unusedSimpArgs false
namespace Go.Proofs.YtjahmnenfknjgaaGreatDoor
open Go.RowKit

set_option maxHeartbeats 4000000 in
set_option maxRecDepth 100000 in
theorem okBreaks_any (A : Option Addr) (c n : Nat) (bs : List Int) (w : World) (hr : Rd w A (nums .i64 bs)) (hb : BkP bs n) (hm : bs.length ≤ 2147483647) (hn : n ≤ 2147483647) :
    Calls Tryz.prog 117 #[.slice A bs.length c, .int .i64 n] w fun e w' => e = .returned Value.nilIface ∧ Upd [] w w' := by
  have HB := Lib.hid hb
  clear hb
  go_enter Tryz.func117, Tryz.ntmps117
  go_wp2
  go_loopg [5, 10] (bs.length + 1) (fun k p i wr => ∃ j : Nat, i = .int .i64 j ∧ p = .int .i64 (bkl bs j) ∧ j ≤ bs.length ∧ Upd [] w wr ∧ Hid (bs.length + 1 - j ≤ k))
  case atStart => exact ⟨0, rfl, rfl, by omega, Upd.refl _ _, Nat.le_refl _⟩
  case round =>
    obtain ⟨j, rfl, rfl, hj, hu, hk⟩ := hrel
    by_cases hlt : j < bs.length
    · obtain ⟨g, o, rfl, hc⟩ := (hr.keep hu).num j hlt
      obtain ⟨x1, x2⟩ := HB.out.2.1 j hlt
      have hsn : bkl bs (j + 1) = nth bs j := by simp [bkl]
      have ht : ¬ nth bs j ≤ bkl bs j := by omega
      have htd : decide (nth bs j ≤ bkl bs j) = false := by simpa using ht
      generalize bkl bs j = x at *
      generalize nth bs j = y at *
      have HS := Lib.hid hsn
      clear hsn x1 x2
      go_wp2
      go_roundg (bs.length + 1 - (j + 1))
      case measure => have := hk.out; omega
      case rel => exact ⟨j + 1, by go_num, by rw [HS.out], by omega, hu, Nat.le_refl _⟩
    · obtain rfl : j = bs.length := by omega
      have he : bkl bs bs.length = n := HB.out.2.2
      rw [he]
      have hbb : ((n : Int) != (n : Int)) = false := by simp
      go_wp2
      go_ret
      exact ⟨rfl, hu⟩
end Go.Proofs.YtjahmnenfknjgaaGreatDoor
namespace Go.Proofs.YtjahmnenfknjgaaGreatDoor
open Go.RowKit

def sepC : List Cl := [.B, .S]
theorem sepC_iff (c : Cl) : sepC.contains c = true ↔ (c = .B ∨ c = .S) := by cases c <;> simp [sepC]
theorem wh_wsP (c : Cl) : c.isWh = wsP c := by cases c <;> rfl
theorem bk_yes1 {cs : List Cl} {a : Int} {s m : Nat} {U : List Int} (hs : s ≤ m) (h : (cat cs m).isWh = true) : bk cs a s (m + 1) U = bk cs a s m (U.set m a) := by
  rw [bk, if_pos ⟨hs, by rw [← wh_wsP]; exact h⟩]
theorem bk_no1 {cs : List Cl} {a : Int} {s m : Nat} {U : List Int} (h : (cat cs m).isWh = false) : bk cs a s (m + 1) U = U := by
  rw [bk, if_neg (fun x => by rw [← wh_wsP, h] at x; cases x.2)]
theorem bk_stop {cs : List Cl} {a : Int} {s : Nat} {U : List Int} : ∀ m, m ≤ s → bk cs a s m U = U
  | 0, _ => rfl
  | m + 1, h => by rw [bk, if_neg (by omega)]
theorem l1K_yes {cs : List Cl} {a : Int} {V : List Int} {j : Nat} (h : sepC.contains (cat cs j) = true) : bk cs a 0 j ((l1K cs a V j).set j a) = l1K cs a V (j + 1) := by
  rw [l1K, if_pos ((sepC_iff _).1 h)]
theorem l1K_no {cs : List Cl} {a : Int} {V : List Int} {j : Nat} (h : sepC.contains (cat cs j) = false) : l1K cs a V j = l1K cs a V (j + 1) := by
  rw [l1K, if_neg (fun x => by rw [(sepC_iff _).2 x] at h; cases h)]
theorem white_at {c : Cl} {b : Bool} (h : c.isWh = b) (W : World) : Calls Tryz.prog 118 #[.int .u64 c.e2] W fun e w' => e = .returned (.bool b) ∧ W = w' := by
  subst h; exact white_any c W

set_option maxHeartbeats 8000000 in
set_option maxRecDepth 100000 in
theorem getLevels_any (b g0 k0 gL kL c : Nat) (A : Option Addr) (pt pv tt mm ss : Value) (a : Int) (cs : List Cl) (V bs : List Int) (w : World)
    (hp : Par w b (.slice (some ⟨g0, 0, none⟩) cs.length k0) pt pv a tt (.slice (some ⟨gL, 0, none⟩) cs.length kL) mm ss)
    (hc0 : Row w g0 77 (clsU cs)) (hV : Row w gL 112 (nums .i8 V)) (hVl : V.length = cs.length) (hr : Rd w A (nums .i64 bs)) (hb : BkP bs cs.length) (hn0 : 0 < cs.length) (hm : cs.length ≤ 2147483647) (hmb : bs.length ≤ 2147483647) :
    Calls Tryz.prog 90 #[.pointer (some ⟨b, 0, none⟩), .slice A bs.length c] w fun e w' => ∃ g k, w.heap.size ≤ g ∧ cs.length ≤ k ∧ e = .returned (.slice (some ⟨g, 0, none⟩) cs.length k) ∧ Row w' g 112 (nums .i8 (getLv cs a bs V)) ∧ Upd [] w w' := by
  obtain ⟨i0, hi', hz0, hz1, hz2⟩ := info_parts info112
  have HB := Lib.hid hb
  have c0 := hp.cells.c0
  have LEN : Hid (Calls Tryz.prog 102 #[.pointer (some ⟨b, 0, none⟩)] w fun e w' => e = .returned (.int .i64 cs.length) ∧ w = w') := len_any b cs.length _ k0 w c0
  have OKB : Hid (Calls Tryz.prog 117 #[.slice A bs.length c, .int .i64 cs.length] w fun e w' => e = .returned Value.nilIface ∧ Upd [] w w') := okBreaks_any A c cs.length bs w hr hb hmb hm
  have HVL := Lib.hid hVl
  have HP := Lib.hid hp
  clear hb c0 hp
  go_enter Tryz.func90, Tryz.ntmps90
  go_wp2_with (first
    | (go_at_call 102; refine LEN.out.mono ?_; rintro e w1 ⟨rfl, rfl⟩)
    | (go_at_call 117; refine OKB.out.mono ?_; rintro e w1 ⟨rfl, hu1⟩; have hp1 := Par.upd HP.out hu1 (by simp); have c5 := hp1.cells.c5; have c01 := hp1.cells.c0; have hV1 := hV.upd hu1 (by simp))
    | (at_builtin; go_must (refine wpList_append_nil _ rfl (.const (.slice none 0 0)) (.tmp 20) 113 rfl 112 i0 (.int .i8 0) 1 1 Tryz.underlying113 hi' hz0 hz1 hz2 rfl (by decide) rfl ⟨gL, 0, none⟩ cs.length kL (nums .i8 V) rfl (by rw [nums_length, HVL.out]; simp) hV1.at_addr (nums_one _ _) hn0 (by unfold maxLen; omega) (by omega) ?_; intro g2 c2 w2 hown2 hgrow2; have hu2 : Upd [] w1 w2 := (Upd.refl [] w1).grown0 hgrow2; have hp2 := Par.upd hp1 hu2 (by simp); have d0 := hp2.cells.c0)))
  have hg2 : w.heap.size ≤ g2 := by have := (hown2.lt g2 rfl).1; have := hu1.size; omega
  have hc2 : cs.length ≤ c2 := owns_cap hown2
  have hr2 := Row.of_owns hown2
  have hu12 := hu1.trans hu2
  clear hown2 hgrow2 hV1 c5 c01 hp1 hu1 hu2 d0 hp2
  go_loopg [27] (cs.length + 1) (fun k i wr => ∃ (j : Nat), i = .int .i64 j ∧ j ≤ cs.length ∧ Row wr g2 112 (nums .i8 (l1K cs a V j)) ∧ Upd [] w wr ∧ Hid (cs.length + 1 - j ≤ k))
  case atStart => exact ⟨0, rfl, by omega, hr2, hu12, Nat.le_refl _⟩
  case round =>
    clear hr2 hu12
    obtain ⟨j, rfl, hj, hrr, hu, hk⟩ := hrel
    by_cases hlt : j < cs.length
    · have hcc := (hc0.upd hu (by simp)).cls j hlt
      have hKL : (l1K cs a V j).length = cs.length := by rw [l1K_length, HVL.out]
      cases hsep : sepC.contains (cat cs j) with
      | false =>
        have B1 := Lib.hid hsep
        have HS := Lib.hid (l1K_no (a := a) (V := V) hsep)
        clear hsep
        go_wp2_with (go_at_call 106; refine (in_upd (c := cat cs j) (l := sepC) false (by simp) (by rfl) rfl B1.out (by decide) _).mono ?_; rintro e w2 ⟨rfl, hu2⟩)
        go_roundg (cs.length + 1 - (j + 1))
        case measure => have := hk.out; omega
        case rel => exact ⟨j + 1, by go_num, by omega, by rw [← HS.out]; exact hrr.upd hu2 (by simp), hu.then hu2, Nat.le_refl _⟩
      | true =>
        have B1 := Lib.hid hsep
        have HS := Lib.hid (l1K_yes (a := a) (V := V) hsep)
        clear hsep
        go_wp2_with (go_at_call 106; refine (in_upd (c := cat cs j) (l := sepC) true (by simp) (by rfl) rfl B1.out (by decide) _).mono ?_; rintro e w2 ⟨rfl, hu2⟩; have hrr2 := hrr.upd hu2 (by simp); have hu3 := hu.then hu2; have hp3 := Par.upd HP.out hu3 (by simp); have d3 := hp3.cells.c3; have e1 := hrr2.num j (by rw [hKL]; exact hlt); have e2 := hrr2.free j)
        have hrs : Row (w2.setCell ⟨g2, j, none⟩ (.int .i8 a)) g2 112 (nums .i8 ((l1K cs a V j).set j a)) := hrr2.setNum j a (by rw [hKL]; exact hlt)
        have hus : Upd [] w (w2.setCell ⟨g2, j, none⟩ (.int .i8 a)) := hu3.setCell (p := ⟨g2, j, none⟩) (.inr hg2) _
        have hKS : ((l1K cs a V j).set j a).length = cs.length := by rw [List.length_set, hKL]
        clear hrr hrr2 hu hu2 hu3 hp3 d3 e1 e2 hcc
        go_loopg [8] (cs.length + 1) (fun k jv wi => ∃ (m : Nat) (z : Int) (U : List Int), jv = .int .i64 z ∧ z = (m : Int) - 1 ∧ m ≤ j ∧ U.length = cs.length ∧ Row wi g2 112 (nums .i8 U) ∧ Hid (bk cs a 0 m U = l1K cs a V (j + 1)) ∧ Upd [] w wi ∧ Hid (m ≤ k))
        case atStart => exact ⟨j, _, _, rfl, by first | rfl | omega | go_num, Nat.le_refl _, hKS, hrs, HS, hus, by show _ ≤ _; omega⟩
        case round =>
          clear hrs hus
          obtain ⟨m, z, U, rfl, hz, hmj, hUl, hrr, HU, hu, hk2⟩ := hrel
          have hp3 := Par.upd HP.out hu (by simp)
          have d0 := hp3.cells.c0
          have d3 := hp3.cells.c3
          rcases m with _ | m
          · have hz2 : z < 0 := by omega
            have HZ := Lib.hid hz
            clear hz
            have HE : Hid (U = l1K cs a V (j + 1)) := HU.out
            go_wp2
            go_roundg (cs.length + 1 - (j + 1))
            case measure => have := hk.out; omega
            case rel => exact ⟨j + 1, by go_num, by omega, by rw [← HE.out]; exact hrr, hu, Nat.le_refl _⟩
          · obtain rfl : z = (m : Int) := by omega
            have hml : m < cs.length := by omega
            have hcc := (hc0.upd hu (by simp)).cls m hml
            have f1 := hrr.num m (by rw [hUl]; exact hml)
            have f2 := hrr.free m
            have HZ := Lib.hid hz
            clear hz
            cases hw : (cat cs m).isWh with
            | true =>
              have WH := Lib.hid (fun W => white_at hw W)
              have HE : Hid (bk cs a 0 m (U.set m a) = l1K cs a V (j + 1)) := (bk_yes1 (Nat.zero_le m) hw).symm.trans HU.out
              clear hw
              go_wp2_with (go_at_call 118; refine (WH.out _).mono ?_; rintro e w5 ⟨rfl, rfl⟩)
              go_roundg m
              case measure => have := hk2.out; omega
              case rel => exact ⟨m, (m : Int) - 1, U.set m a, by go_num, rfl, by omega, by rw [List.length_set, hUl], hrr.setNum m a (by rw [hUl]; exact hml), HE, hu.setCell (p := ⟨g2, m, none⟩) (.inr hg2) _, Nat.le_refl _⟩
            | false =>
              have WH := Lib.hid (fun W => white_at hw W)
              have HE : Hid (U = l1K cs a V (j + 1)) := (bk_no1 hw).symm.trans HU.out
              clear hw
              go_wp2_with (go_at_call 118; refine (WH.out _).mono ?_; rintro e w5 ⟨rfl, rfl⟩)
              go_roundg (cs.length + 1 - (j + 1))
              case measure => have := hk.out; omega
              case rel => exact ⟨j + 1, by go_num, by omega, by rw [← HE.out]; exact hrr, hu, Nat.le_refl _⟩
    · obtain rfl : j = cs.length := by omega
      have hr3 := hrr
      clear hrr
      have hlL : ∀ q, (l1L cs a bs (l1K cs a V cs.length) q).length = cs.length := fun q => by rw [l1L_length, l1K_length, HVL.out]
      have HLL := Lib.hid hlL
      have HG : Hid (l1L cs a bs (l1K cs a V cs.length) bs.length = getLv cs a bs V) := rfl
      have HL0 : Hid (l1L cs a bs (l1K cs a V cs.length) 0 = l1K cs a V cs.length) := rfl
      have HLS : Hid (∀ q, l1L cs a bs (l1K cs a V cs.length) (q + 1) = bk cs a (bkl bs q).toNat (nth bs q).toNat (l1L cs a bs (l1K cs a V cs.length) q)) := fun q => rfl
      generalize l1K cs a V cs.length = K1 at *
      clear hlL
      go_wp2
      go_loopg [9, 66] (bs.length + 1) (fun k f i wr => ∃ (j fr : Nat), i = .int .i64 j ∧ j ≤ bs.length ∧ f = .int .i64 fr ∧ Hid (bkl bs j = fr) ∧ Row wr g2 112 (nums .i8 (l1L cs a bs K1 j)) ∧ Upd [] w wr ∧ Hid (bs.length + 1 - j ≤ k))
      case atStart => exact ⟨0, 0, rfl, by omega, rfl, rfl, by rw [HL0.out]; exact hr3, hu, Nat.le_refl _⟩
      case round =>
        clear hr3 hu hlt hj
        obtain ⟨j, fr, rfl, hj, rfl, HF, hrr, hu, hk⟩ := hrel
        by_cases hlt : j < bs.length
        · obtain ⟨ga, oa, rfl, hcb⟩ := (hr.keep hu).num j hlt
          obtain ⟨hx1, hx2⟩ := HB.out.2.1 j hlt
          have hfr := HF.out
          obtain ⟨te, hte⟩ : ∃ te : Nat, nth bs j = te := ⟨(nth bs j).toNat, by have : bkl bs j = fr := hfr; omega⟩
          have HBS : Hid (bkl bs (j + 1) = te) := by show _ = _; rw [bkl_succ, hte]
          have HS : Hid (bk cs a fr te (l1L cs a bs K1 j) = l1L cs a bs K1 (j + 1)) := by
            show _ = _
            rw [HLS.out j, hfr, hte]; rfl
          rw [hte] at hcb hx1 hx2
          rw [hfr] at hx1
          have hx3 : fr < te := by omega
          have hx4 : te ≤ cs.length := by omega
          have hKL := HLL.out j
          clear hte hfr hx1 hx2
          go_wp2
          go_loopg [12] (cs.length + 1) (fun k jv wi => ∃ (m : Nat) (z : Int) (U : List Int), jv = .int .i64 z ∧ z = (m : Int) - 1 ∧ fr ≤ m ∧ m ≤ te ∧ U.length = cs.length ∧ Row wi g2 112 (nums .i8 U) ∧ Hid (bk cs a fr m U = l1L cs a bs K1 (j + 1)) ∧ Upd [] w wi ∧ Hid (m ≤ k))
          case atStart => exact ⟨te, _, _, rfl, by first | rfl | omega | go_num, by omega, Nat.le_refl _, hKL, hrr, HS, hu, by show _ ≤ _; omega⟩
          case round =>
            clear hrr hu
            obtain ⟨m, z, U, rfl, hz, hmf, hmj, hUl, hrr, HU, hu, hk2⟩ := hrel
            have hp3 := Par.upd HP.out hu (by simp)
            have d0 := hp3.cells.c0
            have d3 := hp3.cells.c3
            by_cases hms : m = fr
            · have HE : Hid (U = l1L cs a bs K1 (j + 1)) := (bk_stop m (by omega)).symm.trans HU.out
              have hzf : z < fr := by omega
              have HZ := Lib.hid hz
              clear hz
              go_wp2
              go_roundg (bs.length + 1 - (j + 1))
              case measure => have := hk.out; omega
              case rel => exact ⟨j + 1, te, by go_num, by omega, rfl, HBS, by rw [← HE.out]; exact hrr, hu, Nat.le_refl _⟩
            · obtain ⟨m, rfl⟩ : ∃ q, m = q + 1 := ⟨m - 1, by omega⟩
              obtain rfl : z = (m : Int) := by omega
              have hml : m < cs.length := by omega
              have hmf2 : fr ≤ m := by omega
              have hcc := (hc0.upd hu (by simp)).cls m hml
              have f1 := hrr.num m (by rw [hUl]; exact hml)
              have f2 := hrr.free m
              have HZ := Lib.hid hz
              clear hz
              cases hw : (cat cs m).isWh with
              | true =>
                have WH := Lib.hid (fun W => white_at hw W)
                have HE : Hid (bk cs a fr m (U.set m a) = l1L cs a bs K1 (j + 1)) := (bk_yes1 hmf2 hw).symm.trans HU.out
                clear hw
                go_wp2_with (go_at_call 118; refine (WH.out _).mono ?_; rintro e w5 ⟨rfl, rfl⟩)
                go_roundg m
                case measure => have := hk2.out; omega
                case rel => exact ⟨m, (m : Int) - 1, U.set m a, by go_num, rfl, hmf2, by omega, by rw [List.length_set, hUl], hrr.setNum m a (by rw [hUl]; exact hml), HE, hu.setCell (p := ⟨g2, m, none⟩) (.inr hg2) _, Nat.le_refl _⟩
              | false =>
                have WH := Lib.hid (fun W => white_at hw W)
                have HE : Hid (U = l1L cs a bs K1 (j + 1)) := (bk_no1 hw).symm.trans HU.out
                clear hw
                go_wp2_with (go_at_call 118; refine (WH.out _).mono ?_; rintro e w5 ⟨rfl, rfl⟩)
                go_roundg (bs.length + 1 - (j + 1))
                case measure => have := hk.out; omega
                case rel => exact ⟨j + 1, te, by go_num, by omega, rfl, HBS, by rw [← HE.out]; exact hrr, hu, Nat.le_refl _⟩
        · obtain rfl : j = bs.length := by omega
          go_wp2
          go_ret
          exact ⟨g2, c2, hg2, hc2, rfl, by rw [← HG.out]; exact hrr, hu⟩
end Go.Proofs.YtjahmnenfknjgaaGreatDoor
namespace Go.Proofs.YtjahmnenfknjgaaGreatDoor

/-! ### Levels are not below the paragraph's -/
theorem XOk.low {base : Int} {s : XS} (hb : base = 0 ∨ base = 1) (h : XOk base s) : base ≤ s.top.lv := by
  obtain ⟨e, r, h1, h2, h3, _⟩ := h.top
  obtain ⟨l, e0, h4, _, h5, _⟩ := h.ne
  rw [h2]
  cases r with
  | nil =>
    rw [h1] at h4
    have hl : l = [] := by
      cases l with
      | nil => rfl
      | cons a l => simp at h4
    subst hl
    simp at h4
    rw [h4, h5]; exact Int.le_refl _
  | cons a r => simp at h3; omega
theorem plv_low {cs : List Cl} {base : Int} (hb : base = 0 ∨ base = 1) (i : Nat) : base ≤ plv cs base i := by
  have h0 := (xs_ok cs hb i).low hb
  have h1 := (xs_ok cs hb i).end_.low hb
  have E : ∀ odd : Int, odd = 0 ∨ odd = 1 → base ≤ embLv (xs cs base i) odd base := fun odd ho => by
    unfold embLv
    have := nextLv_gt (xs cs base i).top.lv odd ho
    split <;> omega
  unfold plv
  split <;> first | exact E _ (.inl rfl) | exact E _ (.inr rfl) | exact h1 | exact Int.le_refl _ | exact h0
theorem pRes_len (cs T : List Cl) (br : List Int) (c : Chn) : (pRes cs T br c).length = c.pl.length := by
  unfold pRes
  rw [neuS_length, brS_length]
  rw [weakP_length]
  simp [cIni]
theorem pst0_low {cs T0 : List Cl} {V0 br : List Int} {base : Int} {pls : List (List Nat)} (P : Nat → Prop) (hV : ∀ q, P q → base ≤ nth V0 q) (hl : ∀ pl, pl ∈ pls → base ≤ (chnP cs V0 T0 base pl).lev) : ∀ j, j ≤ pls.length → ∀ q, P q → base ≤ nth (pst0 cs T0 V0 br base pls j).2 q
  | 0, _, q, hq => hV q hq
  | j + 1, h, q, hq => by
    have ih := pst0_low (br := br) P hV hl j (by omega) q hq
    rw [pst0_succ (by omega)]
    unfold pstp
    have hlj := hl pls[j] (List.getElem_mem _)
    refine scI_keep (fun x => base ≤ x) _ (fun t ht => ?_) q ih
    rw [nth_impS (by rw [pRes_len]; exact ht)]
    have h1 := ilv_ge (level := (chnP cs V0 T0 base pls[j]).lev) (cat (pRes cs T0 br (chnP cs V0 T0 base pls[j])) t)
    omega
theorem wholeP_low {cs : List Cl} {br : List Int} {a : Int} (ha : a = 0 ∨ a = 1) (q : Nat) (hq : q < cs.length) (hr : (cat cs q).isRem = false) : a ≤ nth (wholeP cs br a).2 q := by
  have h := pst0_low (cs := cs) (T0 := ptys cs a) (V0 := plvs cs a) (br := br) (base := a) (pls := chnsP cs (klv cs (plvs cs a))) (fun q => q < cs.length ∧ (cat cs q).isRem = false)
    (fun q hq => by rw [nth_plvs hq.1]; exact plv_low ha q)
    (fun pl hpl => by
      obtain ⟨m1, m2, m3, m4⟩ := chn_mem (fun q hq _ => by rw [nth_plvs hq]; exact (plv_range ha q).1) hpl
      have hm := m3 _ (nat_mem (List.length_pos_iff.2 m2))
      show a ≤ nth (plvs cs a) _
      rw [nth_plvs hm.1]; exact plv_low ha _) _ (Nat.le_refl _) q ⟨hq, hr⟩
  rw [pst0_end] at h
  exact h
theorem lent_low {cs : List Cl} {V : List Int} {a : Int} (hV : ∀ q, q < cs.length → (cat cs q).isRem = false → a ≤ nth V q) : ∀ q, q < cs.length → a ≤ lent cs V a q
  | 0, h => by
    unfold lent
    cases e : (cat cs 0).isRem with
    | true => simp
    | false =>
      have := hV 0 h e
      simpa using this
  | q + 1, h => by
    have ih := lent_low hV q (by omega)
    unfold lent
    cases e : (cat cs (q + 1)).isRem with
    | true => simpa using ih
    | false =>
      have := hV (q + 1) h e
      simpa using this
/-- The level lent is that of the kept one ahead. -/
theorem lent_from {cs : List Cl} {V : List Int} {a : Int} {x : Nat} : ∀ z, x ≤ z → (∀ t, x < t → t ≤ z → (cat cs t).isRem = true) → lent cs V a z = lent cs V a x
  | 0, h, _ => by obtain rfl : x = 0 := by omega
                  rfl
  | z + 1, h, hr => by
    by_cases e : x = z + 1
    · rw [e]
    · rw [lent, if_pos (hr (z + 1) (by omega) (Nat.le_refl _))]
      exact lent_from z (by omega) fun t h1 h2 => hr t h1 (by omega)

/-! ### Clause four, by place -/
def LnK (cs : List Cl) (bs : List Int) (q k : Nat) : Prop := ∃ j, j < k ∧ bkl bs j ≤ q ∧ (q : Int) < nth bs j ∧ AW cs q (nth bs j).toNat
theorem l1L_at {cs : List Cl} {a : Int} {bs V : List Int} {q : Nat} (h : BkP bs V.length) : ∀ k, k ≤ bs.length → (LnK cs bs q k → nth (l1L cs a bs V k) q = a) ∧ (¬ LnK cs bs q k → nth (l1L cs a bs V k) q = nth V q)
  | 0, _ => ⟨fun ⟨i, h, _⟩ => by omega, fun _ => rfl⟩
  | k + 1, hk => by
    obtain ⟨ih1, ih2⟩ := l1L_at (cs := cs) (a := a) (q := q) h k (by omega)
    have h1 := bkl_range h k (by omega)
    have h2 := h.2.1 k (by omega)
    show (_ → nth (bk cs a (bkl bs k).toNat (nth bs k).toNat (l1L cs a bs V k)) q = a) ∧ (_ → nth (bk cs a (bkl bs k).toNat (nth bs k).toNat (l1L cs a bs V k)) q = nth V q)
    by_cases hc : (bkl bs k).toNat ≤ q ∧ q < (nth bs k).toNat ∧ AW cs q (nth bs k).toNat
    · refine ⟨fun _ => bk_yes _ _ (by rw [l1L_length]; omega) hc.1 hc.2.1 hc.2.2, fun hn => absurd ⟨k, by omega, by omega, by omega, hc.2.2⟩ hn⟩
    · rw [bk_no _ _ hc]
      refine ⟨fun ⟨j, h3, h4, h5, h6⟩ => ?_, fun hn => ih2 fun ⟨j, h3, h4⟩ => hn ⟨j, by omega, h4⟩⟩
      by_cases e : j = k
      · subst e; exact absurd ⟨by omega, by omega, h6⟩ hc
      · exact ih1 ⟨j, by omega, h4, h5, h6⟩
theorem bkl_mono {bs : List Int} {n : Nat} (h : BkP bs n) : ∀ j i, i ≤ j → j ≤ bs.length → bkl bs i ≤ bkl bs j
  | 0, i, hi, _ => by obtain rfl : i = 0 := by omega
                      exact Int.le_refl _
  | j + 1, i, hi, hj => by
    by_cases e : i = j + 1
    · rw [e]; exact Int.le_refl _
    · have := bkl_mono h j i (by omega) (by omega)
      have := h.2.1 j (by omega)
      rw [bkl_succ]; omega
/-- A place's line is the only one. -/
theorem line_one {bs : List Int} {n : Nat} (h : BkP bs n) {i j q : Nat} (hi : i < bs.length) (hj : j < bs.length) (h1 : bkl bs i ≤ q) (h2 : (q : Int) < nth bs i) (h3 : bkl bs j ≤ q) (h4 : (q : Int) < nth bs j) : i = j := by
  rcases Nat.lt_trichotomy i j with e | e | e
  · have := bkl_mono h j (i + 1) e (by omega)
    rw [bkl_succ] at this; omega
  · exact e
  · have := bkl_mono h i (j + 1) e (by omega)
    rw [bkl_succ] at this; omega
theorem line_of {bs : List Int} {n : Nat} (h : BkP bs n) {q : Nat} : ∀ k, k ≤ bs.length → (q : Int) < bkl bs k → ∃ j, j < k ∧ bkl bs j ≤ q ∧ (q : Int) < nth bs j
  | 0, _, hq => by simp [bkl] at hq; omega
  | k + 1, hk, hq => by
    rw [bkl_succ] at hq
    by_cases hlt : (q : Int) < bkl bs k
    · obtain ⟨j, h1, h2⟩ := line_of h k (by omega) hlt
      exact ⟨j, by omega, h2⟩
    · exact ⟨k, by omega, by omega, hq⟩

/-! ### The set's test -/
theorem endS_succ {cs : List Cl} {te q : Nat} (h : q < te) : endS cs te (te - q) = true ↔ (cat cs q = .B ∨ cat cs q = .S) ∨ (wsP (cat cs q) = true ∧ endS cs te (te - (q + 1)) = true) := by
  have e : te - q = te - (q + 1) + 1 := by omega
  have e2 : te - 1 - (te - (q + 1)) = q := by omega
  rw [e]; conv => lhs; unfold endS
  rw [e2]
  by_cases hb : cat cs q = .B ∨ cat cs q = .S
  · rw [if_pos hb]; simp [hb]
  · rw [if_neg hb]
    unfold wsP
    cases h1 : isSp (cat cs q) <;> cases h2 : (cat cs q).isRem <;> cases h3 : endS cs te (te - (q + 1)) <;> simp [hb]
theorem end_iff {cs : List Cl} {te : Nat} : ∀ (d q : Nat), q + d = te → (endS cs te (te - q) = true ↔ ∃ i, q ≤ i ∧ i ≤ te ∧ (i = te ∨ cat cs i = .B ∨ cat cs i = .S) ∧ AW cs q i)
  | 0, q, h => by
    obtain rfl : q = te := by omega
    rw [Nat.sub_self]
    exact ⟨fun _ => ⟨q, Nat.le_refl _, Nat.le_refl _, .inl rfl, fun t h1 h2 => by omega⟩, fun _ => rfl⟩
  | d + 1, q, h => by
    rw [endS_succ (by omega), end_iff d (q + 1) (by omega)]
    constructor
    · rintro (hb | ⟨hw, i, h1, h2, h3, h4⟩)
      · exact ⟨q, Nat.le_refl _, by omega, .inr hb, fun t h1 h2 => by omega⟩
      · refine ⟨i, by omega, h2, h3, fun t h5 h6 => ?_⟩
        by_cases e : t = q
        · rw [e]; exact hw
        · exact h4 t (by omega) h6
    · rintro ⟨i, h1, h2, h3, h4⟩
      by_cases e : i = q
      · subst e
        rcases h3 with h3 | h3
        · omega
        · exact .inl h3
      · exact .inr ⟨h4 q (Nat.le_refl _) (by omega), i, by omega, h2, h3, fun t h5 h6 => h4 t (by omega) h6⟩
/-- L1 of the package at a place of line j. -/
theorem getLv_at {cs : List Cl} {a : Int} {bs V : List Int} (hl : V.length = cs.length) (h : BkP bs cs.length) {q j te : Nat} (hj : j < bs.length) (h1 : bkl bs j ≤ q) (hte : nth bs j = te) (h2 : q < te) :
    nth (getLv cs a bs V) q = if endS cs te (te - q) = true then a else nth V q := by
  have hb2 := h.2.1 j hj
  have L := l1L_at (cs := cs) (a := a) (bs := bs) (V := l1K cs a V cs.length) (q := q) (by rw [l1K_length, hl]; exact h) bs.length (Nat.le_refl _)
  have K := l1K_at (cs := cs) (a := a) (V := V) (q := q) cs.length (by omega)
  have hE := end_iff (cs := cs) (te := te) (te - q) q (by omega)
  have hL : LnK cs bs q bs.length ↔ AW cs q te := by
    constructor
    · rintro ⟨i, i1, i2, i3, i4⟩
      have := line_one h i1 hj i2 i3 h1 (by omega)
      subst this
      rw [hte] at i4; simpa using i4
    · intro hw
      exact ⟨j, hj, h1, by omega, by rw [hte]; simpa using hw⟩
  unfold getLv
  by_cases c1 : AW cs q te
  · rw [L.1 (hL.2 c1), if_pos (hE.2 ⟨te, by omega, Nat.le_refl _, .inl rfl, c1⟩)]
  · rw [L.2 fun x => c1 (hL.1 x)]
    by_cases c2 : SepK cs q cs.length
    · rw [K.1 c2]
      obtain ⟨i, i1, i2, i3, i4⟩ := c2
      have hi : i < te := by
        by_cases hlt : i < te
        · exact hlt
        · exact absurd (fun t h5 h6 => i4 t h5 (by omega)) c1
      rw [if_pos (hE.2 ⟨i, i3, by omega, .inr i2, i4⟩)]
    · rw [K.2 c2, if_neg fun x => ?_]
      obtain ⟨i, i1, i2, i3, i4⟩ := hE.1 x
      rcases i3 with i3 | i3
      · subst i3; exact c1 i4
      · by_cases e : i = te
        · subst e; exact c1 i4
        · exact c2 ⟨i, by omega, i3, i1, i4⟩
theorem nth_ofLine {cs : List Cl} {lv : List Int} {base : Int} {fr te q : Nat} (h1 : fr ≤ q) (h2 : q < te) : nth (ofLine cs lv base fr te) (q - fr) = olv cs lv base te (te - (q + 1)) := by
  unfold ofLine
  rw [nth_olP (by omega), if_pos (by omega)]
  congr 1; omega
theorem lineLv_at {cs : List Cl} {lv : List Int} {base : Int} {bs : List Int} {n : Nat} (h : BkP bs n) {q j te : Nat} (h1 : bkl bs j ≤ q) (hte : nth bs j = te) (h2 : q < te) : ∀ k, j < k → k ≤ bs.length → nth (lineLv cs lv base bs k) q = olv cs lv base te (te - (q + 1))
  | k + 1, hj, hk => by
    have hlen := lineLv_length (cs := cs) (lv := lv) (base := base) h k (by omega)
    have hr := bkl_range h k (by omega)
    unfold lineLv
    by_cases e : j = k
    · subst e
      rw [nth_append_right (by omega), hlen, hte, Int.toNat_natCast, nth_ofLine (by omega) h2]
    · have hb := bkl_mono h k (j + 1) (by omega) (by omega)
      rw [bkl_succ] at hb
      rw [nth_append_left (by omega)]
      exact lineLv_at h h1 hte h2 k (by omega) (by omega)
theorem olv_at {cs : List Cl} {lv : List Int} {base : Int} {te q : Nat} (h : q < te) : olv cs lv base te (te - (q + 1)) = if (cat cs q).isRem = false ∧ endS cs te (te - q) = true then base else nth lv q := by
  have e2 : te - 1 - (te - (q + 1)) = q := by omega
  have hs := endS_succ (cs := cs) h
  unfold olv
  rw [e2]
  by_cases hb : cat cs q = .B ∨ cat cs q = .S
  · rw [if_pos hb, if_pos ⟨by rcases hb with e | e <;> rw [e] <;> rfl, hs.2 (.inl hb)⟩]
  · rw [if_neg hb]
    have hd : isSp (cat cs q) = true → (cat cs q).isRem = false := by cases cat cs q <;> simp [isSp, Cl.isInit, Cl.isRem]
    by_cases c : (isSp (cat cs q) && endS cs te (te - (q + 1))) = true
    · rw [if_pos c]
      rw [Bool.and_eq_true] at c
      rw [if_pos ⟨hd c.1, hs.2 (.inr ⟨by unfold wsP; rw [c.1]; rfl, c.2⟩)⟩]
    · rw [if_neg c, if_neg fun x => ?_]
      obtain ⟨x1, x2⟩ := x
      rcases hs.1 x2 with x3 | ⟨x3, x4⟩
      · exact hb x3
      · unfold wsP at x3
        rw [x1, Bool.or_false] at x3
        exact c (by rw [x3, x4]; rfl)
theorem lineLevels_length {cs : List Cl} {lv : List Int} {base : Int} {bs : List Int} (h : BkP bs cs.length) : (lineLevels cs lv base bs).length = cs.length := by
  unfold lineLevels; rw [lineLv_length h _ (Nat.le_refl _), h.2.2, Int.toNat_natCast]
theorem getLv_length (cs : List Cl) (a : Int) (bs V : List Int) : (getLv cs a bs V).length = V.length := by unfold getLv; rw [l1L_length, l1K_length]

/-! ### Both -/
/-- The levels that the package has for lines. -/
noncomputable def lnG (cs : List Cl) (br : List Int) (a : Int) (bs : List Int) : List Int := getLv cs a bs (lents cs (wholeP cs br a).2 a)
/-- The levels that the set has for lines. -/
noncomputable def lnW (cs : List Cl) (br : List Int) (a : Int) (bs : List Int) : List Int := lineLevels cs (resolved cs br a).2 a bs
theorem lnG_length (cs : List Cl) (br : List Int) (a : Int) (bs : List Int) : (lnG cs br a bs).length = cs.length := by unfold lnG; rw [getLv_length, lents_length]
theorem lnG_range {cs : List Cl} {br : List Int} {a : Int} {bs : List Int} (ha : a = 0 ∨ a = 1) (h : BkP bs cs.length) {q : Nat} (hq : q < cs.length) : 0 ≤ nth (lnG cs br a bs) q ∧ nth (lnG cs br a bs) q ≤ 127 := by
  obtain ⟨j, h1, h2, h3⟩ := line_of (q := q) h bs.length (Nat.le_refl _) (by rw [h.2.2]; omega)
  obtain ⟨te, hte⟩ : ∃ te : Nat, nth bs j = te := ⟨(nth bs j).toNat, by omega⟩
  unfold lnG
  rw [getLv_at (lents_length _ _ _) h h1 h2 hte (by omega)]
  split
  · omega
  · rw [nth_lents hq]
    exact lent_range ha (fun q hq hr => wholeP_range ha q hq hr) q hq
theorem lnW_at {cs : List Cl} {br : List Int} {a : Int} {bs : List Int} (h : BkP bs cs.length) {q j te : Nat} (hj : j < bs.length) (h1 : bkl bs j ≤ q) (hte : nth bs j = te) (h2 : q < te) :
    nth (lnW cs br a bs) q = if (cat cs q).isRem = false ∧ endS cs te (te - q) = true then a else nth (resolved cs br a).2 q := by
  unfold lnW lineLevels
  rw [lineLv_at h h1 hte h2 _ hj (Nat.le_refl _), olv_at h2]
/-- A place is removed, or both levels are the same there. -/
theorem ln_same {cs : List Cl} {ks vs : List Int} {base : Int} (hG : PGd cs ks vs base) (hC : ¬ ClosP cs (lvAt cs base)) {bs : List Int} (h : BkP bs cs.length) {q : Nat} (hq : q < cs.length) :
    ((cat cs q).isRem = true ∧ nth (lnW cs (signed ks vs) (lvAt cs base) bs) q = -1) ∨ ((cat cs q).isRem = false ∧ nth (lnW cs (signed ks vs) (lvAt cs base) bs) q ≠ -1 ∧ nth (lnG cs (signed ks vs) (lvAt cs base) bs) q = nth (lnW cs (signed ks vs) (lvAt cs base) bs) q) := by
  have hb := lvAt_range (cs := cs) hG.em
  obtain ⟨j, h1, h2, h3⟩ := line_of (q := q) h bs.length (Nat.le_refl _) (by rw [h.2.2]; omega)
  obtain ⟨te, hte⟩ : ∃ te : Nat, nth bs j = te := ⟨(nth bs j).toNat, by omega⟩
  have hgr := lnG_range (br := signed ks vs) hb h hq
  rw [lnW_at h h1 h2 hte (by omega)]
  cases hr : (cat cs q).isRem with
  | true =>
    left
    refine ⟨rfl, ?_⟩
    rw [if_neg (by simp)]
    exact resolved_rem (((lvs_ok (cs := cs) hb hG.hB).kept q hq).1 hr)
  | false =>
    right
    have hl : nth (lvs cs (lvAt cs base)) q ≠ -1 := fun e => by
      have := ((lvs_ok (cs := cs) hb hG.hB).kept q hq).2 e
      rw [hr] at this; cases this
    have hw := (whole_eq hb hG.hB hC (nsm_guard hG) q hq hr).2
    have hw2 := wholeP_range (br := signed ks vs) hb q hq hr
    unfold lnG at hgr ⊢
    rw [getLv_at (lents_length _ _ _) h h1 h2 hte (by omega)] at hgr ⊢
    rw [nth_lents hq, lent_kept hr] at *
    by_cases c : endS cs te (te - q) = true
    · rw [if_pos c, if_pos ⟨rfl, c⟩]
      exact ⟨rfl, by omega, rfl⟩
    · rw [if_neg c, if_neg (fun x => c x.2)]
      exact ⟨rfl, by omega, hw⟩
/-- On a line, no removed place between two kept neighbours is lower than both. -/
theorem ln_betw {cs : List Cl} {ks vs : List Int} {base : Int} (hG : PGd cs ks vs base) (hC : ¬ ClosP cs (lvAt cs base)) {bs : List Int} (h : BkP bs cs.length) {j : Nat} (hj : j < bs.length) :
    Betw (part (lnG cs (signed ks vs) (lvAt cs base) bs) (bkl bs j).toNat (nth bs j).toNat) (part (lnW cs (signed ks vs) (lvAt cs base) bs) (bkl bs j).toNat (nth bs j).toNat) := by
  have hb := lvAt_range (cs := cs) hG.em
  have hb1 := bkl_range h j (by omega)
  have hb2 := h.2.1 j hj
  obtain ⟨te, hte⟩ : ∃ te : Nat, nth bs j = te := ⟨(nth bs j).toNat, by omega⟩
  obtain ⟨fr, hfr⟩ : ∃ fr : Nat, bkl bs j = fr := ⟨(bkl bs j).toNat, by omega⟩
  have hten : te ≤ cs.length := by omega
  have hlG := lnG_length cs (signed ks vs) (lvAt cs base) bs
  have hlW : (lnW cs (signed ks vs) (lvAt cs base) bs).length = cs.length := lineLevels_length h
  rw [hfr, hte, Int.toNat_natCast, Int.toNat_natCast]
  intro x y z hxz hzy hy hx hy' hrem
  rw [part_length (by omega)] at hy
  rw [part_nth (by omega) (by omega)] at hx hy'
  rw [part_nth (by omega) (by omega), part_nth (by omega) (by omega), part_nth (by omega) (by omega)]
  have hremc : ∀ t, x < t → t < y → (cat cs (fr + t)).isRem = true := fun t h1 h2 => by
    have := hrem t h1 h2
    rw [part_nth (by omega) (by omega)] at this
    rcases ln_same hG hC h (q := fr + t) (by omega) with e | e
    · exact e.1
    · exact absurd this e.2.1
  have hG_at : ∀ t, t < te - fr → nth (lnG cs (signed ks vs) (lvAt cs base) bs) (fr + t) = if endS cs te (te - (fr + t)) = true then lvAt cs base else lent cs (wholeP cs (signed ks vs) (lvAt cs base)).2 (lvAt cs base) (fr + t) := fun t ht => by
    unfold lnG
    rw [getLv_at (lents_length _ _ _) h hj (by omega) hte (by omega), nth_lents (by omega)]
  have hlow : ∀ q, q < cs.length → lvAt cs base ≤ lent cs (wholeP cs (signed ks vs) (lvAt cs base)).2 (lvAt cs base) q := lent_low fun q hq hr => wholeP_low hb q hq hr
  by_cases c : endS cs te (te - (fr + z)) = true
  · right
    have key : ∀ d t, t + d = y → z ≤ t → endS cs te (te - (fr + t)) = true → endS cs te (te - (fr + y)) = true := by
      intro d
      induction d with
      | zero => intro t ht _ hc; rw [show y = t by omega]; exact hc
      | succ d ih =>
        intro t ht hz hc
        refine ih (t + 1) (by omega) (by omega) ?_
        have hr := hremc t (by omega) (by omega)
        rcases (endS_succ (by omega)).1 hc with e | e
        · rcases e with e | e <;> rw [e] at hr <;> cases hr
        · rw [show fr + (t + 1) = fr + t + 1 by omega]; exact e.2
    have hy2 := key (y - z) z (by omega) (Nat.le_refl _) c
    rw [hG_at y (by omega), hG_at z (by omega), if_pos hy2, if_pos c]
    exact Int.le_refl _
  · left
    rw [hG_at x (by omega), hG_at z (by omega), if_neg c]
    have e := lent_from (cs := cs) (V := (wholeP cs (signed ks vs) (lvAt cs base)).2) (a := lvAt cs base) (x := fr + x) (fr + z) (by omega) fun t h1 h2 => by
      have := hremc (t - fr) (by omega) (by omega)
      rw [show fr + (t - fr) = t by omega] at this
      exact this
    rw [e]
    split
    · exact hlow _ (by omega)
    · exact Int.le_refl _
/-- All lines: the package's order, without the removed ones, is the set's. -/
theorem ln_order {cs : List Cl} {ks vs : List Int} {base : Int} (hG : PGd cs ks vs base) (hC : ¬ ClosP cs (lvAt cs base)) {bs : List Int} (h : BkP bs cs.length) :
    wout (goLn (lnG cs (signed ks vs) (lvAt cs base) bs) bs bs.length) (lnW cs (signed ks vs) (lvAt cs base) bs) = lineOrders (lnW cs (signed ks vs) (lvAt cs base) bs) bs := by
  have hb := lvAt_range (cs := cs) hG.em
  have hlG := lnG_length cs (signed ks vs) (lvAt cs base) bs
  have hlW : (lnW cs (signed ks vs) (lvAt cs base) bs).length = cs.length := lineLevels_length h
  exact lines_eq (by rw [hlG, hlW]) (by rw [hlG]; exact h) (fun q hq => lnG_range hb h (by omega)) (fun q hq hn => by
    rcases ln_same hG hC h (q := q) (by omega) with e | e
    · exact absurd e.2 hn
    · exact e.2.2.symm) (fun j hj => ln_betw hG hC h hj) _ (Nat.le_refl _)
end Go.Proofs.YtjahmnenfknjgaaGreatDoor
namespace Go.Proofs.YtjahmnenfknjgaaGreatDoor
open Go.RowKit

/-- The first j places are filled with their own numbers. -/
def rngK (n j : Nat) : List Nat := (List.range n).map fun q => if q < j then q else 0
theorem rngK_length (n j : Nat) : (rngK n j).length = n := by simp [rngK]
theorem rngK_zero (n : Nat) : nats (rngK n 0) = List.replicate n 0 := by
  apply List.ext_getElem
  · simp [nats, rngK]
  · intro i h1 h2; simp [nats, rngK]
theorem rngK_end (n : Nat) : rngK n n = List.range n := by
  apply List.ext_getElem
  · simp [rngK]
  · intro i h1 h2; simp [rngK_length] at h1; simp [rngK, h1]
theorem rngK_set {n j : Nat} (h : j < n) : (nats (rngK n j)).set j (j : Int) = nats (rngK n (j + 1)) := by
  apply List.ext_getElem
  · simp [nats, rngK]
  · intro i h1 h2
    rw [List.getElem_set]
    split
    · rename_i e; subst e; simp [nats, rngK]
    · rename_i e
      simp only [nats, rngK, List.getElem_map, List.getElem_range]
      by_cases e2 : i < j
      · rw [if_pos e2, if_pos (by omega)]
      · rw [if_neg e2, if_neg (by omega)]
theorem lowOdd_range {lv : List Int} (h0 : ∀ q, q < lv.length → 0 ≤ nth lv q) {j : Nat} (hj : j ≤ lv.length) : 1 ≤ lowOdd lv j ∧ lowOdd lv j ≤ 127 := ⟨lowOdd_pos h0 j hj, (lowOdd_le lv j).1⟩
theorem swS_off {l : List Nat} {a b s p : Nat} (h : b ≤ p) : nat (swS l a b s) p = nat l p := by
  by_cases hp : p < l.length
  · rw [nat_swS hp, if_neg (by omega)]
  · unfold nat
    rw [List.getD_eq_getElem?_getD, List.getD_eq_getElem?_getD, List.getElem?_eq_none (by rw [swS_length]; omega), List.getElem?_eq_none (by omega)]

set_option maxHeartbeats 8000000 in
set_option maxRecDepth 100000 in
theorem order_any (A : Option Addr) (c0 : Nat) (lv : List Int) (w : World) (hr : Rd w A (nums .i8 lv)) (hv : ∀ q, q < lv.length → 0 ≤ nth lv q ∧ nth lv q ≤ 127) (hm : lv.length ≤ 2147483647) :
    Calls Tryz.prog 141 #[.slice A lv.length c0] w fun e w' => e = .returned (.slice (some ⟨w.heap.size, 0, none⟩) lv.length lv.length) ∧ Row w' w.heap.size 3 (nums .i64 (nats (goOrd lv))) ∧ Upd [] w w' := by
  obtain ⟨i0, hi', hz0, hz1, hz2⟩ := info_parts info3
  have HV := Lib.hid hv
  have HLO : Hid (∀ j, j ≤ lv.length → 1 ≤ lowOdd lv j ∧ lowOdd lv j ≤ 127) := fun j hj => lowOdd_range (fun q hq => (HV.out q hq).1) hj
  have HMO : Hid (∀ j, j ≤ lv.length → 0 ≤ most lv j ∧ most lv j ≤ 127) := fun j hj => ⟨most_nonneg lv j, most_le (M := 127) (by omega) (fun q hq => (HV.out q hq).2) j hj⟩
  clear hv
  go_enter Tryz.func141, Tryz.ntmps141
  go_wp2_with (at_make; refine wpList_make_full _ rfl _ _ 22 rfl w.heap.size 3 i0 (.int .i64 0) 1 Tryz.underlying22 hi' hz0 hz1 _ _ _ _ lv.length rfl rfl rfl rfl ?b1 ?b2 ?b3 ?_)
  case b1 => rw [hz2]; omega
  case b2 => unfold maxLen; omega
  case b3 => exact Nat.le_refl _
  intro w1 hown1 hgrow1
  rw [made_nums] at hown1
  have HO : Hid (Row w1 w.heap.size 3 (nums .i64 (nats (rngK lv.length 0)))) := by show Row _ _ _ _; rw [rngK_zero]; exact Row.of_owns hown1
  have hu1 : Upd [] w w1 := (Upd.refl _ _).grown0 hgrow1
  clear hown1 hgrow1
  go_wp2
  go_loopg [20] (lv.length + 1) (fun k i wr => ∃ (j : Nat), i = .int .i64 j ∧ j ≤ lv.length ∧ Row wr w.heap.size 3 (nums .i64 (nats (rngK lv.length j))) ∧ Upd [] w wr ∧ Hid (lv.length + 1 - j ≤ k))
  case atStart => exact ⟨0, rfl, by omega, HO.out, hu1, Nat.le_refl _⟩
  case round =>
    clear hu1 HO
    obtain ⟨j, rfl, hj, hrr, hu, hk⟩ := hrel
    by_cases hlt : j < lv.length
    · have hf := hrr.free j
      have hc := hrr.num j (by rw [nats_length, rngK_length]; exact hlt)
      have HS := Lib.hid (rngK_set hlt)
      go_wp2
      go_roundg (lv.length + 1 - (j + 1))
      case measure => have := hk.out; omega
      case rel => exact ⟨j + 1, by go_num, by omega, by rw [← HS.out]; exact hrr.setNum j _ (by rw [nats_length, rngK_length]; exact hlt), hu.setCell (p := ⟨w.heap.size, j, none⟩) (.inr (Nat.le_refl _)) _, Nat.le_refl _⟩
    · have hrr2 : Row wr w.heap.size 3 (nums .i64 (nats (List.range lv.length))) := by
        obtain rfl : j = lv.length := by omega
        rw [rngK_end] at hrr; exact hrr
      clear hrr
      go_wp2
      go_loopg [5, 6, 30] (lv.length + 1) (fun k hi lo i wi => ∃ (j : Nat), i = .int .i64 j ∧ j ≤ lv.length ∧ hi = .int .i8 (most lv j) ∧ lo = .int .i8 (lowOdd lv j) ∧ wi = wr ∧ Hid (lv.length + 1 - j ≤ k))
      case atStart => exact ⟨0, rfl, by omega, rfl, rfl, rfl, Nat.le_refl _⟩
      case round =>
        clear hlt hj
        obtain ⟨j, rfl, hj, rfl, rfl, rfl, hk2⟩ := hrel
        by_cases hlt : j < lv.length
        · obtain ⟨ga, oa, rfl, hc⟩ := (hr.keep hu).num j hlt
          obtain ⟨v1, v2⟩ := HV.out j hlt
          obtain ⟨y1, y2⟩ := HMO.out j hj
          obtain ⟨z1, z2⟩ := HLO.out j hj
          have HM : Hid (most lv (j + 1) = max (most lv j) (nth lv j)) := rfl
          have HL := Lib.hid (lowOdd_succ lv j)
          have hb := low_bit v1 v2
          generalize nth lv j = x at *
          generalize most lv j = y at *
          generalize lowOdd lv j = z at *
          by_cases hodd : x % 2 = 0
          · have q1 : (x % 2 != 0) = false := by rw [hodd]; rfl
            have HLE : Hid (lowOdd lv (j + 1) = z) := by show _ = _; rw [HL.out, if_neg (by omega)]
            clear hodd
            by_cases hgt : y < x
            · have HME : Hid (most lv (j + 1) = x) := by show _ = _; rw [HM.out]; omega
              go_wp2
              go_roundg (lv.length + 1 - (j + 1))
              case measure => have := hk2.out; omega
              case rel => exact ⟨j + 1, by go_num, by omega, by rw [HME.out], by rw [HLE.out], rfl, Nat.le_refl _⟩
            · have HME : Hid (most lv (j + 1) = y) := by show _ = _; rw [HM.out]; omega
              go_wp2
              go_roundg (lv.length + 1 - (j + 1))
              case measure => have := hk2.out; omega
              case rel => exact ⟨j + 1, by go_num, by omega, by rw [HME.out], by rw [HLE.out], rfl, Nat.le_refl _⟩
          · have q1 : (x % 2 != 0) = true := by simpa using hodd
            have HOD := Lib.hid hodd
            clear hodd
            by_cases hlz : x < z
            · have HLE : Hid (lowOdd lv (j + 1) = x) := by show _ = _; rw [HL.out, if_pos ⟨HOD.out, hlz⟩]
              by_cases hgt : y < x
              · have HME : Hid (most lv (j + 1) = x) := by show _ = _; rw [HM.out]; omega
                go_wp2
                go_roundg (lv.length + 1 - (j + 1))
                case measure => have := hk2.out; omega
                case rel => exact ⟨j + 1, by go_num, by omega, by rw [HME.out], by rw [HLE.out], rfl, Nat.le_refl _⟩
              · have HME : Hid (most lv (j + 1) = y) := by show _ = _; rw [HM.out]; omega
                go_wp2
                go_roundg (lv.length + 1 - (j + 1))
                case measure => have := hk2.out; omega
                case rel => exact ⟨j + 1, by go_num, by omega, by rw [HME.out], by rw [HLE.out], rfl, Nat.le_refl _⟩
            · have HLE : Hid (lowOdd lv (j + 1) = z) := by show _ = _; rw [HL.out, if_neg (by omega)]
              by_cases hgt : y < x
              · have HME : Hid (most lv (j + 1) = x) := by show _ = _; rw [HM.out]; omega
                go_wp2
                go_roundg (lv.length + 1 - (j + 1))
                case measure => have := hk2.out; omega
                case rel => exact ⟨j + 1, by go_num, by omega, by rw [HME.out], by rw [HLE.out], rfl, Nat.le_refl _⟩
              · have HME : Hid (most lv (j + 1) = y) := by show _ = _; rw [HM.out]; omega
                go_wp2
                go_roundg (lv.length + 1 - (j + 1))
                case measure => have := hk2.out; omega
                case rel => exact ⟨j + 1, by go_num, by omega, by rw [HME.out], by rw [HLE.out], rfl, Nat.le_refl _⟩
        · obtain rfl : j = lv.length := by omega
          obtain ⟨y1, y2⟩ := HMO.out lv.length (Nat.le_refl _)
          obtain ⟨z1, z2⟩ := HLO.out lv.length (Nat.le_refl _)
          obtain ⟨M, hM⟩ : ∃ M : Nat, most lv lv.length = M := ⟨(most lv lv.length).toNat, by omega⟩
          have HVS : Hid (goDn lv (lowOdd lv lv.length) M (List.range lv.length) = goOrd lv) := by show _ = _; unfold goOrd; rw [hM]; rfl
          have HLV : Hid (Lvl lv M (List.range lv.length)) := Lvl.start lv M
          have hMb : M ≤ 127 := by omega
          have HMM0 := Lib.hid hM
          rw [hM]
          clear hM HMO HLO HV y1 y2
          generalize lowOdd lv lv.length = lo at *
          go_wp2
          go_loopg [9] (M + 1) (fun k v wi => ∃ (m : Nat) (l : List Nat), v = .int .i8 m ∧ m ≤ M ∧ l.length = lv.length ∧ Hid (Lvl lv m l) ∧ Row wi w.heap.size 3 (nums .i64 (nats l)) ∧ Hid (goDn lv lo m l = goOrd lv) ∧ Upd [] w wi ∧ Hid (m ≤ k))
          case atStart => exact ⟨M, List.range lv.length, rfl, Nat.le_refl _, by simp, HLV, hrr2, HVS, hu, by show _ ≤ _; omega⟩
          case round =>
            clear hrr2 HVS hu HLV
            obtain ⟨m, l, rfl, hmM, hll, HLV, hrow, HS, hu, hk2⟩ := hrel
            by_cases hm0 : lo ≤ m
            · obtain ⟨m', hmm⟩ : ∃ q, m = q + 1 := ⟨m - 1, by omega⟩
              have hmi2 : (m : Int) - 1 = m' := by omega
              have HMM := Lib.hid hmm
              have HS2 : Hid (goDn lv lo m' (revB (geq lv (m : Int)) l) = goOrd lv) := by
                show _ = _
                have h := HS.out
                subst hmm
                rw [show goDn lv lo (m' + 1) l = if lo ≤ ((m' + 1 : Nat) : Int) then goDn lv lo m' (revB (geq lv ((m' + 1 : Nat) : Int)) l) else l from rfl, if_pos hm0] at h
                exact h
              have hm127 : (m' : Int) ≤ 126 := by omega
              clear hmm
              go_wp2
              go_loopg [10] (lv.length + 2) (fun k iv wi => ∃ (i : Nat) (c D r : List Nat), iv = .int .i64 i ∧ c.length = lv.length ∧ Row wi w.heap.size 3 (nums .i64 (nats c)) ∧ Hid (Pass (geq lv (m : Int)) l c i D r) ∧ Hid (∀ p, i ≤ p → nat c p = nat l p) ∧ Upd [] w wi ∧ Hid (lv.length + 1 - i ≤ k))
              case atStart => exact ⟨0, l, [], l, rfl, hll, hrow, Pass.start _ _, fun _ _ => rfl, hu, by show _ ≤ _; omega⟩
              case round =>
                clear hrow hu
                obtain ⟨i, c, D, r, rfl, hcl, hrow, HP, HQ, hu, hk3⟩ := hrel
                by_cases hil : i < lv.length
                · obtain rfl : i = D.length := by
                    have h1 := congrArg List.length HP.out.eq
                    rcases HP.out.at_ with e | e
                    · exact e
                    · have := e.1; subst this; simp at h1; omega
                  have hDr : c.length = D.length + r.length := by rw [HP.out.eq]; simp
                  have HPT : Hid (∀ p, D.length ≤ p → p < lv.length → geq lv (m : Int) (nat c p) = decide ((m : Int) ≤ nth lv p)) := fun p h1 h2 => by
                    rw [HQ.out p h1, HLV.out m (Int.le_refl _) p h2]; rfl
                  obtain ⟨gl, ol, rfl, hcl3⟩ := (hr.keep hu).num _ hil
                  by_cases hge : (m : Int) ≤ nth lv D.length
                  · have HT0 : Hid (∀ q, q < 1 → geq lv (m : Int) (nat c (D.length + q)) = true) := fun q hq => by
                      obtain rfl : q = 0 := by omega
                      rw [HPT.out _ (by omega) (by omega)]; exact decide_eq_true hge
                    generalize nth lv D.length = x at *
                    go_wp2
                    go_loopg [12] (r.length + 1) (fun k kv wi => ∃ (T : Nat), kv = .int .i64 ((D.length : Int) + T) ∧ 1 ≤ T ∧ T ≤ r.length ∧ wi = wr ∧ Hid (∀ q, q < T → geq lv (m : Int) (nat c (D.length + q)) = true) ∧ Hid (r.length + 1 - T ≤ k))
                    case atStart => exact ⟨1, by go_num, by omega, by omega, rfl, HT0, by show _ ≤ _; omega⟩
                    case round =>
                      clear HT0 hcl3 hge
                      obtain ⟨T, rfl, hT1, hT, rfl, HT, hk4⟩ := hrel
                      by_cases hgo : T < r.length ∧ (m : Int) ≤ nth lv (D.length + T)
                      · obtain ⟨hTr, hge⟩ := hgo
                        obtain ⟨gl, ol, e, hcl3⟩ := (hr.keep hu).num (D.length + T) (by omega)
                        cases e
                        have HT2 : Hid (∀ q, q < T + 1 → geq lv (m : Int) (nat c (D.length + q)) = true) := fun q hq => by
                          by_cases e : q = T
                          · rw [e, HPT.out _ (by omega) (by omega)]; exact decide_eq_true hge
                          · exact HT.out q (by omega)
                        generalize nth lv (D.length + T) = x at *
                        go_wp2
                        go_roundg (r.length + 1 - (T + 1))
                        case measure => have := hk4.out; omega
                        case rel => exact ⟨T + 1, by go_num, by omega, by omega, rfl, HT2, Nat.le_refl _⟩
                      · have HEE : Hid (T < r.length → geq lv (m : Int) (nat c (D.length + T)) = false) := fun h => by
                          rw [HPT.out _ (by omega) (by omega)]; exact decide_eq_false fun h2 => hgo ⟨h, h2⟩
                        have hgo2 : ¬ T < r.length ∨ (T < r.length ∧ ¬ (m : Int) ≤ nth lv (D.length + T)) := by
                          by_cases h : T < r.length
                          · exact .inr ⟨h, fun h2 => hgo ⟨h, h2⟩⟩
                          · exact .inl h
                        clear hgo
                        rcases hgo2 with hTr | ⟨hTr, hge⟩
                        rotate_left 1
                        obtain ⟨gl, ol, e, hcl3⟩ := (hr.keep hu).num (D.length + T) (by omega)
                        cases e
                        generalize nth lv (D.length + T) = x at *
                        all_goals (
                          go_wp2
                          go_loopg [13, 14] (T + 1) (fun k av bv wi => ∃ (s : Nat), av = .int .i64 ((D.length : Int) + s) ∧ bv = .int .i64 ((D.length : Int) + T - 1 - s) ∧ s ≤ T ∧ Row wi w.heap.size 3 (nums .i64 (nats (swS c D.length (D.length + T) s))) ∧ Upd [] w wi ∧ Hid (T - s ≤ k))
                          case atStart => exact ⟨0, by simp, by congr 1; omega, by omega, by rw [swS_zero]; exact hrow, hu, by show _ ≤ _; omega⟩
                          case round =>
                            clear hrow hu
                            obtain ⟨s, rfl, rfl, hs, hrow, hu, hk5⟩ := hrel
                            by_cases hab : D.length + s < D.length + T - 1 - s
                            · obtain ⟨pa, hpa⟩ : ∃ n : Nat, (D.length : Int) + s = n := ⟨D.length + s, by omega⟩
                              obtain ⟨pb, hpb⟩ : ∃ n : Nat, (D.length : Int) + T - 1 - s = n := ⟨D.length + T - 1 - s, by omega⟩
                              have hpaN : pa = D.length + s := by omega
                              have hpbN : pb = D.length + T - 1 - s := by omega
                              have hpab : (pa : Int) < pb := by omega
                              have hpne : pa ≠ pb := by omega
                              have hpbK : pb < lv.length := by omega
                              have hpaK : pa < lv.length := by omega
                              have HSW := Lib.hid (swS_step (l := c) (a := D.length) (b := D.length + T) (s := s) (by omega) hab)
                              have HPA := Lib.hid hpaN
                              have HPB := Lib.hid hpbN
                              have HPA2 := Lib.hid hpa
                              have HPB2 := Lib.hid hpb
                              rw [← hpaN, ← hpbN] at HSW
                              have hsl : (swS c D.length (D.length + T) s).length = lv.length := by rw [swS_length]; exact hcl
                              have ca := hrow.num pa (by simp [nats]; omega)
                              have cb := hrow.num pb (by simp [nats]; omega)
                              rw [nth_nats (by omega)] at ca cb
                              have fa := hrow.free pa
                              have fb := hrow.free pb
                              rw [hpa, hpb]
                              generalize nat (swS c D.length (D.length + T) s) pa = xa at *
                              generalize nat (swS c D.length (D.length + T) s) pb = xb at *
                              generalize hc1 : swS c D.length (D.length + T) s = cc at *
                              clear hpaN hpbN hpa hpb hab hc1
                              go_wp2
                              go_region
                              all_goals (try go_wp2)
                              go_roundg (T - (s + 1))
                              case measure => have := hk5.out; have := HPA.out; have := HPB.out; omega
                              case rel =>
                                have hrw : Row ((wr.setCell ⟨w.heap.size, pa, none⟩ (.int .i64 xb)).setCell ⟨w.heap.size, pb, none⟩ (.int .i64 xa)).drew w.heap.size 3 (nums .i64 (nats (swS c D.length (D.length + T) (s + 1)))) := by
                                  have := (hrow.setNum pa (xb : Int) (by simp [nats]; omega)).setNum pb (xa : Int) (by simp [nats]; omega)
                                  rw [← HSW.out]
                                  simpa [nats, List.map_set] using this.drew
                                exact ⟨s + 1, by have := HPA2.out; congr 1; omega, by have := HPB2.out; congr 1; omega, by have := HPA.out; have := HPB.out; omega, hrw, ((hu.setCell (p := ⟨w.heap.size, pa, none⟩) (.inr (Nat.le_refl _)) _).setCell (p := ⟨w.heap.size, pb, none⟩) (.inr (Nat.le_refl _)) _).drew, Nat.le_refl _⟩
                            · have hab2 : ¬ ((D.length : Int) + s < (D.length : Int) + T - 1 - s) := by omega
                              obtain ⟨D', r', hP2⟩ := HP.out.step hT HT.out HEE.out hab hs
                              have hP3 := Lib.hid hP2
                              have HQ2 : Hid (∀ p, D.length + T + 1 ≤ p → nat (swS c D.length (D.length + T) s) p = nat l p) := fun p hp => by rw [swS_off (by omega), HQ.out p (by omega)]
                              have hcl2 : (swS c D.length (D.length + T) s).length = lv.length := by rw [swS_length]; exact hcl
                              generalize swS c D.length (D.length + T) s = c2 at *
                              clear hP2
                              go_wp2
                              go_roundg (lv.length + 1 - (D.length + T + 1))
                              case measure => have := hk3.out; omega
                              case rel => exact ⟨D.length + T + 1, c2, D', r', by go_num, hcl2, hrow, hP3, HQ2, hu, Nat.le_refl _⟩)
                  · have HEE : Hid (0 < r.length → geq lv (m : Int) (nat c (D.length + 0)) = false) := fun _ => by
                      rw [HPT.out _ (by omega) (by omega)]; exact decide_eq_false hge
                    generalize nth lv D.length = x at *
                    obtain ⟨D', r', hP2⟩ := HP.out.step (T := 0) (s := 0) (by omega) (fun q hq => by omega) HEE.out (by omega) (by omega)
                    rw [swS_zero] at hP2
                    have hP3 := Lib.hid hP2
                    clear hP2
                    go_wp2
                    go_roundg (lv.length + 1 - (D.length + 1))
                    case measure => have := hk3.out; omega
                    case rel => exact ⟨D.length + 1, c, D', r', by go_num, hcl, hrow, hP3, fun p hp => HQ.out p (by omega), hu, Nat.le_refl _⟩
                · have hdn := HP.out.done (by omega)
                  have HS3 : Hid (goDn lv lo m' c = goOrd lv) := by show _ = _; rw [hdn]; exact HS2.out
                  have HLV2 : Hid (Lvl lv m' c) := by
                    show Lvl _ _ _
                    rw [hdn]; exact (HLV.out.pass hll).mono (by have := HMM.out; omega)
                  clear hdn
                  go_wp2
                  go_roundg m'
                  case measure => have := hk2.out; have := HMM.out; omega
                  case rel => exact ⟨m', c, by go_num, by have := HMM.out; omega, hcl, HLV2, hrow, HS3, hu, Nat.le_refl _⟩
            · have HE : Hid (l = goOrd lv) := by
                show _ = _
                have h := HS.out
                cases m with
                | zero => exact h
                | succ m' =>
                  rw [show goDn lv lo (m' + 1) l = if lo ≤ ((m' + 1 : Nat) : Int) then goDn lv lo m' (revB (geq lv ((m' + 1 : Nat) : Int)) l) else l from rfl, if_neg hm0] at h
                  exact h
              go_wp2
              go_ret
              exact ⟨rfl, by rw [← HE.out]; exact hrow, hu⟩
end Go.Proofs.YtjahmnenfknjgaaGreatDoor
namespace Go.Proofs.YtjahmnenfknjgaaGreatDoor
open Go.RowKit

/-- copy onto the whole of a row that the call made. -/
theorem run_copy_part {P : Program} {w : World} (dT sT ty0 elem : TypeId) (hu : P.underlying dT = some (.slice elem)) (hsz : (P.info? elem).map (·.size) = some 1)
    (g dLen dCap : Nat) (ad : Addr) (sLen sCap : Nat) {ty : TypeId} {vs : List Value} (hr : Row w g ty vs) (cs : List Value) (hv : vs.length = cs.length) (hn : cs.length = Nat.min sLen dLen)
    (hsrc : ∀ j v, cs[j]? = some v → w.cell? (ad.add j) = some v) (h1 : ∀ v ∈ cs, v.oneCell' = true) :
    ∃ w', Row w' g ty cs ∧ Upd [g] w w' ∧ (Builtin.copy_ #[dT, sT] ty0 #[.slice (some ⟨g, 0, none⟩) dLen dCap, .slice (some ad) sLen sCap]).run P w = .ok (goInt cs.length) w' := by
  obtain ⟨r, hg⟩ := hr
  have hrun := run_copy_row (P := P) w dT sT ty0 elem g 0 dLen dCap ad sLen sCap _ ty cs hu hsz hg hn hsrc (by simp; omega) h1
  refine ⟨_, ⟨r, ?_⟩, ⟨?_, ?_, ?_, ?_, ?_⟩, hrun⟩
  · rw [setRow_heap w g _ _ ty _ hg]
    congr 2
    apply Array.toList_inj.1
    simp [← hv]
  · rfl
  · rfl
  · rfl
  · simp [World.setRow]
  · exact fun k hk hn2 => setRow_other w g k _ (by simpa using hn2)
/-- A list filled up with zeros to n places. -/
def padN (n : Nat) (L : List Nat) : List Nat := L ++ List.replicate (n - L.length) 0
theorem padN_length {n : Nat} {L : List Nat} (h : L.length ≤ n) : (padN n L).length = n := by simp [padN]; omega
theorem padN_zero (n : Nat) : nats (padN n []) = List.replicate n 0 := by simp [padN, nats]
theorem padN_end {n : Nat} {L : List Nat} (h : L.length = n) : padN n L = L := by simp [padN, h]
theorem padN_set {n : Nat} {L : List Nat} {x : Nat} (h : L.length < n) : (nats (padN n L)).set L.length (x : Int) = nats (padN n (L ++ [x])) := by
  have e : n - L.length = n - (L ++ [x]).length + 1 := by simp; omega
  unfold padN
  rw [e, List.replicate_succ]
  simp [nats, List.set_append_right]
theorem adds_of_rd {w : World} {g o : Nat} {vs : List Value} (h : Rd w (Option.some ⟨g, o, Option.none⟩) vs) : ∀ j v, vs[j]? = Option.some v → w.cell? ((⟨g, o, Option.none⟩ : Addr).add j) = Option.some v := by
  intro j v hj
  obtain ⟨hl, e⟩ := List.getElem?_eq_some_iff.1 hj
  obtain ⟨g', o', e', hc⟩ := h j hl
  cases e'
  rw [← e, ← hc]
  by_cases e2 : j = 0
  · subst e2; simp [Addr.add]
  · simp [Addr.add, e2]
theorem goLn_le {lv : List Int} {bs : List Int} (h : BkP bs lv.length) {j : Nat} (hj : j ≤ bs.length) : (goLn lv bs j).length = (bkl bs j).toNat ∧ (goLn lv bs j).length ≤ lv.length := by
  have := goLn_length h j hj
  have := bkl_range h j hj
  omega
theorem Rd.part8 {w : World} {g o : Nat} {lv : List Int} {fr te : Nat} (h : Rd w (Option.some ⟨g, o, Option.none⟩) (nums .i8 lv)) (hte : te ≤ lv.length) : Rd w (Option.some ⟨g, o + fr, Option.none⟩) (nums .i8 (Go.Proofs.YtjahmnenfknjgaaGreatDoor.part lv fr te)) := fun j hj => by
  rw [nums_length, part_length hte] at hj
  obtain ⟨g', o', e, hc⟩ := h.num (fr + j) (by omega)
  cases e
  refine ⟨g, o + fr, rfl, ?_⟩
  rw [Nat.add_assoc, hc]
  simp only [nums, List.getElem_map]
  rw [nth_eq, part_nth hte hj]
theorem goOrd_lt (lv : List Int) : AllLt lv.length (goOrd lv) := .of_mem fun x hx => by simpa using (goOrd_perm lv).mem_iff.1 hx

set_option maxHeartbeats 8000000 in
set_option maxRecDepth 100000 in
theorem multi_any (A1 A2 : Option Addr) (c1 c2 : Nat) (lv : List Int) (bs : List Int) (w : World) (h1 : Rd w A1 (nums .i8 lv)) (h2 : Rd w A2 (nums .i64 bs)) (hb : BkP bs lv.length) (hv : ∀ q, q < lv.length → 0 ≤ nth lv q ∧ nth lv q ≤ 127) (h0 : 0 < lv.length) (hcap : lv.length ≤ c1) (hm : lv.length ≤ 2147483647) (hmb : bs.length ≤ 2147483647) :
    Calls Tryz.prog 119 #[.slice A1 lv.length c1, .slice A2 bs.length c2] w fun e w' => e = .returned (.slice (some ⟨w.heap.size, 0, none⟩) lv.length lv.length) ∧ Row w' w.heap.size 3 (nums .i64 (nats (goLn lv bs bs.length))) ∧ Upd [] w w' := by
  obtain ⟨i0, hi', hz0, hz1, hz2⟩ := info_parts info3
  obtain ⟨j0, hj', jz0, jz1, jz2⟩ := info_parts info112
  obtain ⟨gl, ol, rfl, _⟩ := h1.some (by rw [nums_length]; exact h0)
  have HB := Lib.hid hb
  have ORD := Lib.hid (fun (fr te : Nat) (hte : te ≤ lv.length) (g : Nat) (w : World) (h : Row w g 112 (nums .i8 (part lv fr te))) => order_any (some ⟨g, 0, none⟩) (te - fr) (part lv fr te) w (Rd.of_row h) (fun q hq => by rw [part_length hte] at hq; rw [part_nth hte hq]; exact hv _ (by omega)) (by rw [part_length hte]; omega))
  clear hb hv
  go_enter Tryz.func119, Tryz.ntmps119
  go_wp2_with (at_make; refine wpList_make_full _ rfl _ _ 22 rfl w.heap.size 3 i0 (.int .i64 0) 1 Tryz.underlying22 hi' hz0 hz1 _ _ _ _ lv.length rfl rfl rfl rfl ?b1 ?b2 ?b3 ?_)
  case b1 => rw [hz2]; omega
  case b2 => unfold maxLen; omega
  case b3 => exact Nat.le_refl _
  intro w1 hown1 hgrow1
  rw [made_nums] at hown1
  have HO : Hid (Row w1 w.heap.size 3 (nums .i64 (nats (padN lv.length (goLn lv bs 0))))) := by show Row _ _ _ _; rw [show goLn lv bs 0 = [] from rfl, padN_zero]; exact Row.of_owns hown1
  have hu1 : Upd [] w w1 := (Upd.refl _ _).grown0 hgrow1
  clear hown1 hgrow1
  go_wp2
  go_loopg [6, 17] (bs.length + 1) (fun k f i wr => ∃ (j fr : Nat), i = .int .i64 j ∧ j ≤ bs.length ∧ bkl bs j = fr ∧ f = .int .i64 fr ∧ Row wr w.heap.size 3 (nums .i64 (nats (padN lv.length (goLn lv bs j)))) ∧ Upd [] w wr ∧ Hid (bs.length + 1 - j ≤ k))
  case atStart => exact ⟨0, 0, rfl, by omega, rfl, rfl, HO.out, hu1, Nat.le_refl _⟩
  case round =>
    clear hu1 HO
    obtain ⟨j, fr, rfl, hj, hbk, rfl, hrr, hu, hk⟩ := hrel
    by_cases hlt : j < bs.length
    · obtain ⟨ga, oa, rfl, hc⟩ := (h2.keep hu).num j hlt
      obtain ⟨hx1, hx2⟩ := HB.out.2.1 j hlt
      obtain ⟨te, hte⟩ : ∃ te : Nat, nth bs j = te := ⟨(nth bs j).toNat, by omega⟩
      have HLL : Hid (goLn lv bs (j + 1) = goLn lv bs j ++ (goOrd (part lv fr te)).map (fr + ·)) := by
        show goLn lv bs j ++ (goOrd (part lv (bkl bs j).toNat (nth bs j).toNat)).map ((bkl bs j).toNat + ·) = _
        rw [hbk, hte]; rfl
      have HBS : Hid (bkl bs (j + 1) = te) := by show _ = _; rw [bkl_succ, hte]
      have hll := goLn_length HB.out j (by omega)
      rw [hbk, Int.toNat_natCast] at hll
      have HL2 := Lib.hid hll
      rw [hte] at hc hx1 hx2
      rw [hbk] at hx1
      have hx3 : fr < te := by omega
      have hx4 : te ≤ lv.length := by omega
      have hx5 : (fr : Int) < c1 := by omega
      obtain ⟨d, hd⟩ : ∃ d : Nat, (te : Int) - fr = d := ⟨te - fr, by omega⟩
      have hdN : te - fr = d := by omega
      have hdP : 0 < d := by omega
      have hpl := part_length (fr := fr) hx4
      have hol := goOrd_length (part lv fr te)
      have hot := goOrd_lt (part lv fr te)
      rw [hpl] at hol hot
      rw [hdN] at hol hot hpl
      have OR : Hid (∀ (g : Nat) (W : World), Row W g 112 (nums .i8 (part lv fr te)) → Calls Tryz.prog 141 #[.slice (some ⟨g, 0, none⟩) d d] W fun e w' => e = .returned (.slice (some ⟨W.heap.size, 0, none⟩) d d) ∧ Row w' W.heap.size 3 (nums .i64 (nats (goOrd (part lv fr te)))) ∧ Upd [] W w') := fun g W h => by
        have := ORD.out fr te hx4 g W h
        rw [hpl, hdN] at this; exact this
      have PT := Lib.hid (fun (W : World) (h : Rd W (some ⟨gl, ol, none⟩) (nums .i8 lv)) => adds_of_rd (h.part8 (fr := fr) hx4))
      have hlr := hrr.lt
      have HDN := Lib.hid hdN
      have hmin : d = Nat.min (lv.length - fr) d := by have : d ≤ lv.length - fr := by omega
                                                       exact (Nat.min_eq_right this).symm
      have HMI := Lib.hid hmin
      have hfd : fr + d = te := by omega
      have HFD := Lib.hid hfd
      clear hbk hte hx1 hx2 hll hdN hmin hfd
      generalize part lv fr te = PP at *
      generalize goOrd PP = OO at *
      have HPL := Lib.hid hpl
      clear hpl
      go_wp2_with (at_make; go_must (refine wpList_make_full _ rfl _ _ 113 rfl wr.heap.size 112 j0 (.int .i8 0) 1 Tryz.underlying113 hj' jz0 jz1 _ _ _ _ d rfl rfl rfl rfl ?b1 ?b2 ?b3 ?_))
      case b1 => rw [jz2]; omega
      case b2 => unfold maxLen; omega
      case b3 => exact Nat.le_refl _
      intro w2 hown2 hgrow2
      rw [made_nums] at hown2
      have hu2 : Upd [] wr w2 := (Upd.refl _ _).grown0 hgrow2
      have hr2 := Row.of_owns hown2
      have hrr2 := hrr.upd hu2 (by simp)
      clear hown2 hgrow2
      have hsz := hu.size
      have PT2 := PT.out w2 ((h1.keep hu).keep hu2)
      have hne : w.heap.size ≠ wr.heap.size := by omega
      obtain ⟨w3, hr3, hu3, HRUN⟩ := run_copy_part (P := Tryz.prog) (w := w2) 113 113 3 112 Tryz.underlying113 (by rw [hj']; exact congrArg some jz1) wr.heap.size d d ⟨gl, ol + fr, none⟩ (lv.length - fr) (c1 - fr) hr2 (nums .i8 PP) (by simp [nums, HPL.out]) (by rw [nums_length, HPL.out]; exact HMI.out) PT2 (nums_one _ _)
      have hrr3 := hrr2.upd hu3 (by simpa using hne)
      have OR3 := OR.out _ w3 hr3
      go_wp2_with (go_at_call 141; go_must (refine OR3.mono ?_; rintro e w4 ⟨rfl, hr4, hu4⟩))
      have hrr4 := hrr3.upd hu4 (by simp)
      have hu14 : Upd [] w w4 := ((hu.trans hu2).step hu3 (fun t ht => .inr (by simp at ht; omega))).trans hu4
      have hne4 : w.heap.size ≠ w3.heap.size := by have := hu3.size; have := hu2.size; omega
      have hll2 := HL2.out
      have HS0 : Hid (goLn lv bs j ++ (OO.take 0).map (fr + ·) = goLn lv bs j) := by show _ = _; simp
      obtain ⟨g5, hg5⟩ : ∃ g5, g5 = w3.heap.size := ⟨_, rfl⟩
      rw [← hg5] at hr4 hne4 ⊢
      have HG5 := Lib.hid hg5
      clear hr3 hrr3 hrr2 hr2 hu3 hu4 hu2 hrr hu OR3 PT2 hg5 hll2
      go_loopg [33] (d + 1) (fun k i wi => ∃ (q : Nat), i = .int .i64 q ∧ q ≤ d ∧ Row wi w.heap.size 3 (nums .i64 (nats (padN lv.length (goLn lv bs j ++ (OO.take q).map (fr + ·))))) ∧ Row wi g5 3 (nums .i64 (nats OO)) ∧ Upd [] w wi ∧ Hid (d + 1 - q ≤ k))
      case atStart => exact ⟨0, rfl, by omega, by rw [HS0.out]; exact hrr4, hr4, hu14, Nat.le_refl _⟩
      case round =>
        clear hrr4 hr4 hu14
        obtain ⟨q, rfl, hq, hrr, hr5, hu, hk2⟩ := hrel
        by_cases hqd : q < d
        · have hcv := hr5.num q (by rw [nats_length]; omega)
          rw [nth_nats (by omega)] at hcv
          have HT : Hid ((OO.take (q + 1)).map (fr + ·) = (OO.take q).map (fr + ·) ++ [fr + nat OO q]) := by
            show _ = _
            rw [List.take_succ_eq_append_getElem (by omega), List.map_append, nat_eq (by omega)]; rfl
          have hpt := hot q (by omega)
          have hlen : (goLn lv bs j ++ (OO.take q).map (fr + ·)).length = fr + q := by
            rw [List.length_append, List.length_map, List.length_take, HL2.out]; omega
          have hlt2 : fr + q < lv.length := by have := HFD.out; omega
          have HST : Hid ((nats (padN lv.length (goLn lv bs j ++ (OO.take q).map (fr + ·)))).set (fr + q) ((fr + nat OO q : Nat) : Int) = nats (padN lv.length (goLn lv bs j ++ (OO.take (q + 1)).map (fr + ·)))) := by
            show _ = _
            rw [HT.out, ← List.append_assoc, ← padN_set (by omega), hlen]
          have hpl2 : (nats (padN lv.length (goLn lv bs j ++ (OO.take q).map (fr + ·)))).length = lv.length := by rw [nats_length, padN_length (by omega)]
          have hcr := hrr.num (fr + q) (by omega)
          have hfr := hrr.free (fr + q)
          have hot2 := Lib.hid hot
          clear hlen
          generalize nat OO q = x at *
          generalize padN lv.length (goLn lv bs j ++ (OO.take q).map (fr + ·)) = ZZ at *
          go_wp2
          go_roundg (d + 1 - (q + 1))
          case measure => have := hk2.out; omega
          case rel =>
            refine ⟨q + 1, by go_num, by omega, ?_, hr5.other (by simpa using hne4.symm) _, hu.setCell (p := ⟨w.heap.size, fr + q, none⟩) (.inr (Nat.le_refl _)) _, Nat.le_refl _⟩
            rw [← HST.out, show ((x : Int) + fr) = ((fr + x : Nat) : Int) by omega]
            exact hrr.setNum (fr + q) ((fr + x : Nat) : Int) (by omega)
        · obtain rfl : q = d := by omega
          have HF : Hid (goLn lv bs j ++ (OO.take q).map (fr + ·) = goLn lv bs (j + 1)) := by
            show _ = _
            rw [HLL.out, List.take_of_length_le (by omega)]
          rw [HF.out] at hrr
          go_wp2
          go_roundg (bs.length + 1 - (j + 1))
          case measure => have := hk.out; omega
          case rel => exact ⟨j + 1, te, by go_num, by omega, HBS.out, rfl, hrr, hu, Nat.le_refl _⟩
    · obtain rfl : j = bs.length := by omega
      have HE : Hid (padN lv.length (goLn lv bs bs.length) = goLn lv bs bs.length) := by
        refine padN_end ?_
        rw [goLn_length HB.out _ (Nat.le_refl _), HB.out.2.2, Int.toNat_natCast]
      go_wp2
      go_ret
      exact ⟨rfl, by rw [← HE.out]; exact hrr, hu⟩
end Go.Proofs.YtjahmnenfknjgaaGreatDoor
namespace Go.Proofs.YtjahmnenfknjgaaGreatDoor
open Go.RowKit

set_option maxHeartbeats 8000000 in
set_option maxRecDepth 100000 in
theorem reorder_any (b g0 k0 gL kL c : Nat) (A : Option Addr) (pt pv tt mm ss : Value) (a : Int) (cs : List Cl) (V bs : List Int) (w : World)
    (hp : Par w b (.slice (some ⟨g0, 0, none⟩) cs.length k0) pt pv a tt (.slice (some ⟨gL, 0, none⟩) cs.length kL) mm ss)
    (hc0 : Row w g0 77 (clsU cs)) (hV : Row w gL 112 (nums .i8 V)) (hVl : V.length = cs.length) (hr : Rd w A (nums .i64 bs)) (hb : BkP bs cs.length) (hn0 : 0 < cs.length) (hm : cs.length ≤ 2147483647) (hmb : bs.length ≤ 2147483647)
    (hrg : ∀ q, q < cs.length → 0 ≤ nth (getLv cs a bs V) q ∧ nth (getLv cs a bs V) q ≤ 127) :
    Calls Tryz.prog 91 #[.pointer (some ⟨b, 0, none⟩), .slice A bs.length c] w fun e w' => ∃ g, w.heap.size ≤ g ∧ e = .returned (.slice (some ⟨g, 0, none⟩) cs.length cs.length) ∧ Row w' g 3 (nums .i64 (nats (goLn (getLv cs a bs V) bs bs.length))) ∧ Upd [] w w' := by
  have LEN : Hid (Calls Tryz.prog 102 #[.pointer (some ⟨b, 0, none⟩)] w fun e w' => e = .returned (.int .i64 cs.length) ∧ w = w') := len_any b cs.length _ k0 w hp.cells.c0
  have OKB : Hid (Calls Tryz.prog 117 #[.slice A bs.length c, .int .i64 cs.length] w fun e w' => e = .returned Value.nilIface ∧ Upd [] w w') := okBreaks_any A c cs.length bs w hr hb hmb hm
  have GL : Hid (∀ W, Upd [] w W → Calls Tryz.prog 90 #[.pointer (some ⟨b, 0, none⟩), .slice A bs.length c] W fun e w' => ∃ g k, W.heap.size ≤ g ∧ cs.length ≤ k ∧ e = .returned (.slice (some ⟨g, 0, none⟩) cs.length k) ∧ Row w' g 112 (nums .i8 (getLv cs a bs V)) ∧ Upd [] W w') := fun W hW =>
    getLevels_any b g0 k0 gL kL c A pt pv tt mm ss a cs V bs W (Par.upd hp hW (by simp)) (hc0.upd hW (by simp)) (hV.upd hW (by simp)) hVl (hr.keep hW) hb hn0 hm hmb
  have hGl : (getLv cs a bs V).length = cs.length := by rw [getLv_length, hVl]
  have MU : Hid (∀ W g k, Upd [] w W → Row W g 112 (nums .i8 (getLv cs a bs V)) → cs.length ≤ k → Calls Tryz.prog 119 #[.slice (some ⟨g, 0, none⟩) cs.length k, .slice A bs.length c] W fun e w' => ∃ g', W.heap.size ≤ g' ∧ e = .returned (.slice (some ⟨g', 0, none⟩) cs.length cs.length) ∧ Row w' g' 3 (nums .i64 (nats (goLn (getLv cs a bs V) bs bs.length))) ∧ Upd [] W w') := fun W g k hW hg hk => by
    have h := multi_any (some ⟨g, 0, none⟩) A k c (getLv cs a bs V) bs W (Rd.of_row hg) (hr.keep hW) (by rw [hGl]; exact hb) (fun q hq => hrg q (by rw [← hGl]; exact hq)) (by omega) (by omega) (by omega) hmb
    rw [hGl] at h
    exact h.mono fun e w' ⟨h1, h2, h3⟩ => ⟨_, Nat.le_refl _, h1, h2, h3⟩
  clear hp hc0 hV hr hb hrg hGl hVl
  generalize getLv cs a bs V = G at *
  generalize goLn G bs bs.length = O at *
  go_enter Tryz.func91, Tryz.ntmps91
  go_wp2_with (first
    | (go_at_call 102; refine LEN.out.mono ?_; rintro e w1 ⟨rfl, rfl⟩)
    | (go_at_call 117; refine OKB.out.mono ?_; rintro e w1 ⟨rfl, hu1⟩)
    | (go_at_call 90; refine (GL.out _ hu1).mono ?_; rintro e w2 ⟨g2, k2, hg2, hk2, rfl, hr2, hu2⟩; have hu12 := hu1.trans hu2; have MU2 := MU.out w2 g2 k2 hu12 hr2 hk2)
    | (go_at_call 119; refine MU2.mono ?_; rintro e w3 ⟨g3, hg3, rfl, hr3, hu3⟩))
  go_ret
  exact ⟨g3, by have := hu12.size; omega, rfl, hr3, hu12.trans hu3⟩

set_option maxHeartbeats 16000000 in
set_option maxRecDepth 100000 in
theorem lines_any (gx c gk kc gv vc cb : Nat) (A : Option Addr) (emb : Int) (cs : List Cl) (ks vs bs : List Int) (w : World) (hG : PGd cs ks vs emb)
    (hr : Row w gx 77 (clsU cs)) (hk : Row w gk 5 (nums .u8 ks)) (hv : Row w gv 21 (nums .i32 vs)) (hc : cs.length ≤ c) (hbr : Rd w A (nums .i64 bs)) (hb : BkP bs cs.length) (hmb : bs.length ≤ 2147483647) :
    Calls Tryz.prog 57 #[.slice (some ⟨gx, 0, none⟩) cs.length c, .slice (some ⟨gk, 0, none⟩) cs.length kc, .slice (some ⟨gv, 0, none⟩) cs.length vc, .int .i8 emb, .slice A bs.length cb] w fun e w' => ∃ gN gO, e = .returned (.tuple #[.slice (some ⟨gN, 0, none⟩) cs.length cs.length, .slice (some ⟨gO, 0, none⟩) cs.length cs.length, Value.nilIface]) ∧
      Row w' gN 60 (nums .i8 (lnG cs (signed ks vs) (lvAt cs emb) bs)) ∧ Row w' gO 3 (nums .i64 (nats (goLn (lnG cs (signed ks vs) (lvAt cs emb) bs) bs bs.length))) ∧ Upd [] w w' := by
  obtain ⟨i0, hi', hz0, hz1, hz2⟩ := info_parts info21
  have hm := hG.hm
  have HG := Lib.hid hG
  have HR := Lib.hid hr
  have HVn := Lib.hid hG.vn
  have HBR := Lib.hid hbr
  have C1 := brackets_any (some ⟨gk, 0, none⟩) kc ks w (Rd.of_row hk) (by rw [hG.kn]; exact hm)
  rw [hG.kn] at C1
  have hvl : vs.length = cs.length := hG.vn
  have hRG : Hid (∀ q, q < cs.length → 0 ≤ nth (lnG cs (signed ks vs) (lvAt cs emb) bs) q ∧ nth (lnG cs (signed ks vs) (lvAt cs emb) bs) q ≤ 127) := fun q hq => lnG_range (lvAt_range hG.em) hb hq
  have HB := Lib.hid hb
  clear hG hk hr hvl hb hbr
  go_enter Tryz.func57, Tryz.ntmps57
  go_upto_if 26 with (first
    | (go_at_call 80; refine C1.mono ?_; rintro e w1 ⟨rfl, hk1, hu1⟩; have hv1 := hv.upd hu1 (by simp); have hown1 := World.ownsRow_lit (base := w1.heap.size) (e := 21) (size := 1) w1 #[] 0 (Nat.le_refl _) (by decide) rfl)
    | (at_builtin; go_must (refine wpList_append_two _ rfl (.tmp 19) (.tmp 20) 68 rfl w1.heap.size 21 i0 (.int .i32 0) 1 4 Tryz.underlying68 hi' hz0 hz1 hz2 rfl (by decide) w1.heap.size 0 0 _ rfl hown1 ⟨gv, 0, none⟩ cs.length vc (nums .i32 vs) rfl (by rw [nums_length, HVn.out]; simp) (hv1.alloc _).at_addr (nums_one' _ vs) (by unfold maxLen; omega) (by omega) (by simp) ?_; intro g2 c2 w2 hown2 hgrow2 hg2; have hu2 : Upd [] w1 w2 := ((Upd.refl [] w1).alloc _).grown hgrow2 (fun k e => .inr (by cases e; exact Nat.le_refl _)); have hv2 := Row.of_owns hown2; have hk2 := hk1.upd hu2 (by simp); have hr2 := (HR.out.upd hu1 (by simp)).upd hu2 (by simp)))
    | (go_at_call 79; go_must (refine (newPar_any gx c w.heap.size cs.length g2 c2 emb cs ks vs w2 HG.out hr2 hk2 hv2 hc).mono ?_; rintro e w3 ⟨b, rfl, hp3, hu3⟩)))
  obtain ⟨g0, k0, gT, kT, gL, kL, gm, gs, pt, pv, y1, y2, y3, y4, hP, z0, zT, zL⟩ := hp3
  obtain ⟨L, hL⟩ : ∃ L, L = lents cs (wholeP cs (signed ks vs) (lvAt cs emb)).2 (lvAt cs emb) := ⟨_, rfl⟩
  have hGe : getLv cs (lvAt cs emb) bs L = lnG cs (signed ks vs) (lvAt cs emb) bs := by rw [hL]; rfl
  have hLl : L.length = cs.length := by rw [hL, lents_length]
  rw [← hL] at zL
  have hu13 := (hu1.trans hu2).trans hu3
  have GLV : Hid (∀ W, Upd [] w3 W → Calls Tryz.prog 90 #[.pointer (some ⟨b, 0, none⟩), .slice A bs.length cb] W fun e w' => ∃ g k, W.heap.size ≤ g ∧ cs.length ≤ k ∧ e = .returned (.slice (some ⟨g, 0, none⟩) cs.length k) ∧ Row w' g 112 (nums .i8 (lnG cs (signed ks vs) (lvAt cs emb) bs)) ∧ Upd [] W w') := fun W hW => by
    rw [← hGe]
    exact getLevels_any b g0 k0 gL kL cb A pt pv _ _ _ (lvAt cs emb) cs L bs W (Par.upd hP hW (by simp)) (z0.upd hW (by simp)) (zL.upd hW (by simp)) hLl (HBR.out.keep (hu13.trans hW)) HB.out HG.out.n0 hm hmb
  have ROR : Hid (∀ W, Upd [] w3 W → Calls Tryz.prog 91 #[.pointer (some ⟨b, 0, none⟩), .slice A bs.length cb] W fun e w' => ∃ g, W.heap.size ≤ g ∧ e = .returned (.slice (some ⟨g, 0, none⟩) cs.length cs.length) ∧ Row w' g 3 (nums .i64 (nats (goLn (lnG cs (signed ks vs) (lvAt cs emb) bs) bs bs.length))) ∧ Upd [] W w') := fun W hW => by
    have hrg := hRG.out
    rw [← hGe] at hrg ⊢
    exact reorder_any b g0 k0 gL kL cb A pt pv _ _ _ (lvAt cs emb) cs L bs W (Par.upd hP hW (by simp)) (z0.upd hW (by simp)) (zL.upd hW (by simp)) hLl (HBR.out.keep (hu13.trans hW)) HB.out HG.out.n0 hm hmb hrg
  have hGl := lnG_length cs (signed ks vs) (lvAt cs emb) bs
  have NUM : Hid (∀ W g k, Row W g 112 (nums .i8 (lnG cs (signed ks vs) (lvAt cs emb) bs)) → Calls Tryz.prog 81 #[.slice (some ⟨g, 0, none⟩) cs.length k] W fun e w' => ∃ gN, e = .returned (.slice (some ⟨gN, 0, none⟩) cs.length cs.length) ∧ Row w' gN 60 (nums .i8 (lnG cs (signed ks vs) (lvAt cs emb) bs)) ∧ Upd [] W w') := fun W g k hg => by
    have h := numbers_any (some ⟨g, 0, none⟩) k (lnG cs (signed ks vs) (lvAt cs emb) bs) W (Rd.of_row hg) (by omega)
    rw [hGl] at h
    exact h.mono fun _ _ ⟨a1, a2, a3⟩ => ⟨_, a1, a2, a3⟩
  clear hP z0 zT zL hL hGe hLl hGl y1 y2 y3 y4 hu1 hu2 hu3
  generalize hGG : lnG cs (signed ks vs) (lvAt cs emb) bs = G at *
  generalize hOO : goLn G bs bs.length = O at *
  have HGG := Lib.hid hGG
  have HOO := Lib.hid hOO
  clear hGG hOO
  go_wp2_with (first
    | (go_at_call 90; refine (GLV.out _ (Upd.refl _ _)).mono ?_; rintro e w4 ⟨g4, k4, hg4, hk4, rfl, hr4, hu4⟩)
    | (go_at_call 81; refine (NUM.out _ g4 k4 hr4).mono ?_; rintro e w5 ⟨gN, rfl, hr5, hu5⟩; have hu45 := hu4.trans hu5)
    | (go_at_call 91; refine (ROR.out _ hu45).mono ?_; rintro e w6 ⟨gO, hgO, rfl, hr6, hu6⟩))
  refine bodyPost_ret (v := .tuple #[.slice (some ⟨gN, 0, none⟩) cs.length cs.length, .slice (some ⟨gO, 0, none⟩) cs.length cs.length, Value.nilIface]) (by simp [results, Tryz.results57, go_sem]) rfl ?_
  exact ⟨gN, gO, rfl, by rw [HGG.out]; exact hr5.upd hu6 (by simp), by rw [HGG.out, HOO.out]; exact hr6, (hu13.trans hu45).trans hu6⟩
end Go.Proofs.YtjahmnenfknjgaaGreatDoor
namespace Go.Proofs.YtjahmnenfknjgaaGreatDoor
open Go.RowKit

set_option maxHeartbeats 16000000 in
set_option maxRecDepth 100000 in
theorem iLines_any (A1 A2 A3 A5 : Option Addr) (c1 c2 c3 c5 : Nat) (emb : Int) (cs : List Cl) (ks vs bs : List Int) (w : World) (hG : PGd cs ks vs emb) (hT : Tab w) (hv : ∀ j, j < cs.length → 0 ≤ nth vs j ∧ nth vs j ≤ 1114111)
    (h1 : Rd w A1 (nums .i64 (clsI cs))) (h2 : Rd w A2 (nums .i64 ks)) (h3 : Rd w A3 (nums .i64 vs)) (h5 : Rd w A5 (nums .i64 bs)) (hb : BkP bs cs.length) (hmb : bs.length ≤ 2147483647) :
    Calls Tryz.prog 23 #[.slice A1 cs.length c1, .slice A2 cs.length c2, .slice A3 cs.length c3, .int .i64 emb, .slice A5 bs.length c5] w fun e w' => ∃ g1 g2 k2, e = .returned (.tuple #[.slice (some ⟨g1, 0, none⟩) cs.length cs.length, .slice (some ⟨g2, 0, none⟩) cs.length k2, .bool true]) ∧
      Row w' g1 3 (nums .i64 (lnG cs (signed ks vs) (lvAt cs emb) bs)) ∧ Row w' g2 3 (nums .i64 (nats (goLn (lnG cs (signed ks vs) (lvAt cs emb) bs) bs bs.length))) ∧ w.heap.size ≤ g1 ∧ w.heap.size ≤ g2 ∧ Upd [] w w' := by
  have hm := hG.hm
  have hn0 := hG.n0
  have haR := lvAt_range (cs := cs) hG.em
  have C1 := classesOf_any A1 c1 cs w hT h1 hm
  have K2 : Hid (∀ W, Upd [] w W → ∃ g, w.heap.size ≤ g ∧ Calls Tryz.prog 40 #[.slice A2 cs.length c2] W fun e w' => e = .returned (.slice (some ⟨g, 0, none⟩) cs.length cs.length) ∧ Row w' g 5 (nums .u8 ks) ∧ Upd [] W w') := fun W hW => by
    refine ⟨W.heap.size, hW.size, ?_⟩
    have h := bytesOf_any A2 c2 ks W (h2.keep hW) (by rw [hG.kn]; exact hm) (fun j hj => by have := hG.kO j (by rw [← hG.kn]; exact hj); omega)
    rw [hG.kn] at h; exact h
  have K3 : Hid (∀ W, Upd [] w W → ∃ g, w.heap.size ≤ g ∧ Calls Tryz.prog 41 #[.slice A3 cs.length c3] W fun e w' => e = .returned (.slice (some ⟨g, 0, none⟩) cs.length cs.length) ∧ Row w' g 21 (nums .i32 vs) ∧ Upd [] W w') := fun W hW => by
    refine ⟨W.heap.size, hW.size, ?_⟩
    have h := runesOf_any A3 c3 vs W (h3.keep hW) (by rw [hG.vn]; exact hm) (fun j hj => hv j (by rw [← hG.vn]; exact hj))
    rw [hG.vn] at h; exact h
  have K5 : Hid (∀ W, Upd [] w W → Calls Tryz.prog 46 #[.slice A5 bs.length c5] W fun e w' => ∃ g k, e = .returned (.slice (some ⟨g, 0, none⟩) bs.length k) ∧ Row w' g 3 (nums .i64 bs) ∧ Upd [] W w') := fun W hW =>
    (copyOf_any A5 c5 bs W (h5.keep hW) hb.1 hmb).mono fun e w' ⟨g, k, e1, e2, e3, e4⟩ => ⟨g, k, e1, e3, e4⟩
  obtain ⟨L, hLe⟩ : ∃ L, L = lnG cs (signed ks vs) (lvAt cs emb) bs := ⟨_, rfl⟩
  have hLl : L.length = cs.length := by rw [hLe, lnG_length]
  have hLr : ∀ j, j < L.length → 0 ≤ nth L j ∧ nth L j ≤ 127 := fun j hj => by
    rw [hLe]; exact lnG_range haR hb (by omega)
  obtain ⟨O, hOe⟩ : ∃ O, O = goLn L bs bs.length := ⟨_, rfl⟩
  have hOl : (nats O).length = cs.length := by
    rw [nats_length, hOe, goLn_length (by rw [hLl]; exact hb) _ (Nat.le_refl _), hb.2.2, Int.toNat_natCast]
  have R0 : Hid (∀ g1 g2 g3 g5 k5 W, Row W g1 77 (clsU cs) → Row W g2 5 (nums .u8 ks) → Row W g3 21 (nums .i32 vs) → Row W g5 3 (nums .i64 bs) → Calls Tryz.prog 57 #[.slice (some ⟨g1, 0, none⟩) cs.length cs.length, .slice (some ⟨g2, 0, none⟩) cs.length cs.length, .slice (some ⟨g3, 0, none⟩) cs.length cs.length, .int .i8 emb, .slice (some ⟨g5, 0, none⟩) bs.length k5] W fun e w' => ∃ gN gO, e = .returned (.tuple #[.slice (some ⟨gN, 0, none⟩) cs.length cs.length, .slice (some ⟨gO, 0, none⟩) cs.length cs.length, Value.nilIface]) ∧
      Row w' gN 60 (nums .i8 L) ∧ Row w' gO 3 (nums .i64 (nats O)) ∧ Upd [] W w') := fun g1 g2 g3 g5 k5 W r1 r2 r3 r5 => by
    rw [hOe, hLe]
    exact lines_any g1 cs.length g2 cs.length g3 cs.length k5 (some ⟨g5, 0, none⟩) emb cs ks vs bs W hG r1 r2 r3 (Nat.le_refl _) (Rd.of_row r5) hb hmb
  have N2 : Hid (∀ g k W, Upd [] w W → Row W g 60 (nums .i8 L) → ∃ h, w.heap.size ≤ h ∧ Calls Tryz.prog 43 #[.slice (some ⟨g, 0, none⟩) cs.length k] W fun e w' => e = .returned (.slice (some ⟨h, 0, none⟩) cs.length cs.length) ∧ Row w' h 3 (nums .i64 L) ∧ Upd [] W w') := fun g k W hW hr => by
    refine ⟨W.heap.size, hW.size, ?_⟩
    have h := largeOf_any (some ⟨g, 0, none⟩) k L W (Rd.of_row hr) (by omega) (fun j hj => by have := hLr j hj; omega)
    rw [hLl] at h; exact h
  have N3 : Hid (∀ g k W, Upd [] w W → Row W g 3 (nums .i64 (nats O)) → Calls Tryz.prog 46 #[.slice (some ⟨g, 0, none⟩) cs.length k] W fun e w' => ∃ h k, e = .returned (.slice (some ⟨h, 0, none⟩) cs.length k) ∧ w.heap.size ≤ h ∧ Row w' h 3 (nums .i64 (nats O)) ∧ Upd [] W w') := fun g k W hW hr => by
    have h := copyOf_any (some ⟨g, 0, none⟩) k (nats O) W (Rd.of_row hr) (by omega) (by omega)
    rw [hOl] at h
    exact h.mono fun e w' ⟨g, k, e1, e2, e3, e4⟩ => ⟨g, k, e1, Nat.le_trans hW.size e2, e3, e4⟩
  have hw8 : IntKind.i8.wrap emb = emb := by rcases hG.em with h | h | h <;> rw [h] <;> rfl
  rw [← hLe, ← hOe]
  clear hG hT h1 h2 h3 h5 hb hLl hLr hLe hOe hOl haR
  obtain ⟨gw, hgw⟩ : ∃ gw, gw = w.heap.size := ⟨_, rfl⟩
  rw [← hgw] at C1
  have HGW := Lib.hid hgw
  clear hgw
  go_enter Tryz.func23, Tryz.ntmps23
  go_wp2_with (first
    | (go_at_call 39; refine C1.mono ?_; rintro e w1 ⟨rfl, r1, u1⟩; obtain ⟨b2, hb2, k2⟩ := K2.out w1 u1)
    | (go_at_call 40; refine k2.mono ?_; rintro e w2 ⟨rfl, r2, u2⟩; have u12 := u1.trans u2; obtain ⟨b3, hb3, k3⟩ := K3.out w2 u12)
    | (go_at_call 41; refine k3.mono ?_; rintro e w3 ⟨rfl, r3, u3⟩; have u13 := u12.trans u3; have k4 := K5.out w3 u13)
    | (go_at_call 46; with_reducible refine k4.mono ?_; rintro e w4 ⟨b5, kb5, rfl, r5, u4⟩; have u14 := u13.trans u4; have k5 := R0.out gw b2 b3 b5 kb5 w4 (((r1.upd u2 (by simp)).upd u3 (by simp)).upd u4 (by simp)) ((r2.upd u3 (by simp)).upd u4 (by simp)) (r3.upd u4 (by simp)) r5)
    | (go_at_call 57; refine k5.mono ?_; rintro e w5 ⟨gN, gO, rfl, r6, r7, u5⟩; have u15 := u14.trans u5; obtain ⟨b6, hb6, k6⟩ := N2.out gN cs.length w5 u15 r6)
    | (go_at_call 43; refine k6.mono ?_; rintro e w6 ⟨rfl, r8, u6⟩; have u16 := u15.trans u6; have k7 := N3.out gO cs.length w6 u16 (r7.upd u6 (by simp)))
    | (go_at_call 46; with_reducible refine k7.mono ?_; rintro e w7 ⟨b8, k8, rfl, hb8, r9, u7⟩))
  refine bodyPost_ret (v := .tuple #[.slice (some ⟨b6, 0, none⟩) cs.length cs.length, .slice (some ⟨b8, 0, none⟩) cs.length k8, .bool true]) (by simp [results, Tryz.results23, go_sem]) rfl ?_
  exact ⟨b6, b8, k8, rfl, r8.upd u7 (by simp), r9, hb6, hb8, u16.trans u7⟩
end Go.Proofs.YtjahmnenfknjgaaGreatDoor
