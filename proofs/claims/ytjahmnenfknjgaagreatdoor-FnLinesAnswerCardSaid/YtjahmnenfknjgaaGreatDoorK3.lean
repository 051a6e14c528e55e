/- The law FnLinesAnswer, walked. -/
import Derived.Test.YtjahmnenfknjgaaGreatDoorK2
import Derived.Test.YtjahmnenfknjgaaGreatDoorG25
import Derived.Test.YtjahmnenfknjgaaGreatDoorG26
import Derived.Test.YtjahmnenfknjgaaGreatDoorK1
set_option linter.unusedVariables false
set_option linter.unusedSimpArgs false
namespace Go.Proofs.YtjahmnenfknjgaaGreatDoor
open Go.RowKit

theorem goLn_lt {lv bs : List Int} (h : BkP bs lv.length) : ∀ j, j ≤ bs.length → ∀ x, x ∈ goLn lv bs j → x < lv.length
  | 0, _, x, hx => by cases hx
  | j + 1, hj, x, hx => by
    have h1 := bkl_range h j (by omega)
    have h2 := h.2.1 j (by omega)
    unfold goLn at hx
    rcases List.mem_append.1 hx with e | e
    · exact goLn_lt h j (by omega) x e
    · obtain ⟨y, hy, rfl⟩ := List.mem_map.1 e
      have := (goOrd_perm _).mem_iff.1 hy
      rw [part_length (by omega)] at this
      simp at this
      omega
/-- What the law asks of both answers. -/
structure LnF (cs : List Cl) (G W bs : List Int) (O LO : List Nat) : Prop where
  gl : G.length = cs.length
  wl : W.length = cs.length
  ol : O.length = cs.length
  same : ∀ q, q < cs.length → nth W q ≠ -1 → nth G q = nth W q
  out : wout O W = LO
  lt : ∀ j, j < O.length → nat O j < W.length
  top : ∀ q, q < W.length → nth W q ≤ 1000
  lo : lineOrders W bs = LO
  ll : LO.length ≤ cs.length
theorem ln_facts {cs : List Cl} {ks vs : List Int} {base : Int} (hG : PGd cs ks vs base) (hC : ¬ ClosP cs (lvAt cs base)) {bs : List Int} (h : BkP bs cs.length) :
    LnF cs (lnG cs (signed ks vs) (lvAt cs base) bs) (lnW cs (signed ks vs) (lvAt cs base) bs) bs (goLn (lnG cs (signed ks vs) (lvAt cs base) bs) bs bs.length) (lineOrders (lnW cs (signed ks vs) (lvAt cs base) bs) bs) := by
  have hb := lvAt_range (cs := cs) hG.em
  have hlG := lnG_length cs (signed ks vs) (lvAt cs base) bs
  have hlW : (lnW cs (signed ks vs) (lvAt cs base) bs).length = cs.length := lineLevels_length h
  have hOl : (goLn (lnG cs (signed ks vs) (lvAt cs base) bs) bs bs.length).length = cs.length := by
    rw [goLn_length (by rw [hlG]; exact h) _ (Nat.le_refl _), h.2.2, Int.toNat_natCast]
  have hlo := ln_order hG hC h
  refine ⟨hlG, hlW, hOl, fun q hq hn => ?_, hlo, fun j hj => ?_, fun q hq => ?_, rfl, ?_⟩
  · rcases ln_same hG hC h hq with e | e
    · exact absurd e.2 hn
    · exact e.2.2
  · have := goLn_lt (lv := lnG cs (signed ks vs) (lvAt cs base) bs) (by rw [hlG]; exact h) bs.length (Nat.le_refl _) _ (nat_mem hj)
    omega
  · rcases ln_same hG hC h (q := q) (by omega) with e | e
    · omega
    · have := lnG_range (br := signed ks vs) hb h (q := q) (by omega); omega
  · rw [← hlo]; have := wout_len (goLn (lnG cs (signed ks vs) (lvAt cs base) bs) bs bs.length) (lnW cs (signed ks vs) (lvAt cs base) bs); omega

set_option maxHeartbeats 8000000 in
set_option maxRecDepth 100000 in
theorem lawLines_any (A1 A2 A3 A5 : Option Addr) (c1 c2 c3 c5 : Nat) (base : Int) (ts ks vs bs : List Int) (w : World) (hT : Tab w)
    (h1 : Rd w A1 (nums .i64 ts)) (h2 : Rd w A2 (nums .i64 ks)) (h3 : Rd w A3 (nums .i64 vs)) (h5 : Rd w A5 (nums .i64 bs)) :
    Calls Tryz.prog 5 #[.slice A1 ts.length c1, .slice A2 ks.length c2, .slice A3 vs.length c3, .int .i64 base, .slice A5 bs.length c5] w fun e w' => e = .returned (.bool true) ∧ Upd [] w w' := by
  by_cases m1 : ts.length ≤ 2147483647
  · have q1 : decide ((2147483647 : Int) < (ts.length : Int)) = false := by simp; omega
    by_cases m2 : ks.length ≤ 2147483647
    · have q2 : decide ((2147483647 : Int) < (ks.length : Int)) = false := by simp; omega
      by_cases m3 : vs.length ≤ 2147483647
      · have q3 : decide ((2147483647 : Int) < (vs.length : Int)) = false := by simp; omega
        by_cases m5 : bs.length ≤ 2147483647
        · have q5 : decide ((2147483647 : Int) < (bs.length : Int)) = false := by simp; omega
          have C1 := isCase_any A1 A2 A3 c1 c2 c3 ts ks vs base w h1 h2 h3 m1 m2 m3
          have C21 := areBreaks_any A5 c5 bs ts.length w h5 m5 m1
          by_cases p : CaseP ts ks vs base
          · have D1 := Lib.hid (C1.mono (fun e w' h => And.intro (h.1.yes1 p) h.2))
            by_cases pb : BkP bs ts.length
            · have D21 := Lib.hid (C21.mono (fun e w' h => And.intro (h.1.yes1 pb) h.2))
              obtain ⟨cs, rfl, h0, hB⟩ := par_cls p.1
              rw [clsI_length] at *
              have hG := case_guards p hB h0 m1
              have hkl := hG.kn
              have hvl := hG.vn
              have hpos : ∀ j, j < ks.length → 0 ≤ nth vs j ∧ nth vs j ≤ 1114111 := fun j hj => by
                have := p.2.1.2.2 j (by rw [clsI_length]; omega)
                by_cases hz : nth ks j = 0
                · rw [this.2.2.1 hz]; omega
                · have := this.2.2.2 (by omega); omega
              have hsg : ∀ j, j < (signed ks vs).length → -1114111 ≤ nth (signed ks vs) j ∧ nth (signed ks vs) j ≤ 1114111 := fun j hj => by
                rw [signed_length] at hj
                have := hpos j hj
                rw [nth_signed hj]
                split
                · omega
                split
                · omega
                · omega
              obtain ⟨a, ha⟩ : ∃ a, a = lvAt cs base := ⟨_, rfl⟩
              have hab : a = baseOf cs base := by rw [ha]; exact lvAt_base hG.em
              have haR : a = 0 ∨ a = 1 := by rw [ha]; exact lvAt_range hG.em
              have C2 := baseLevel_any A1 c1 cs base w h1 m1
              rw [← hab] at C2
              have K3 : Hid (∀ W, Upd [] w W → Calls Tryz.prog 8 #[.slice A1 cs.length c1, .int .i64 a] W fun e w' => SaysB (ClosP cs a) e ∧ Upd [] W w') := fun W hW => closes_any A1 c1 cs a W (h1.keep hW) h0 m1 haR
              have K4 : Hid (∀ W, Upd [] w W → ∃ g, w.heap.size ≤ g ∧ Calls Tryz.prog 10 #[.slice A2 cs.length c2, .slice A3 cs.length c3] W fun e w' => e = .returned (.slice (some ⟨g, 0, none⟩) cs.length cs.length) ∧ Row w' g 3 (nums .i64 (signed ks vs)) ∧ Upd [] W w') := fun W hW => by
                refine ⟨W.heap.size, hW.size, ?_⟩
                have h := signed_any A2 A3 c2 c3 ks vs W (h2.keep hW) (h3.keep hW) (by omega) hpos m2
                rw [hkl] at h; exact h
              have K5 : Hid (∀ g W, Upd [] w W → Row W g 3 (nums .i64 (signed ks vs)) → Calls Tryz.prog 9 #[.slice A1 cs.length c1, .slice (some ⟨g, 0, none⟩) cs.length cs.length, .int .i64 a] W (RetTwoC W cs.length (tyI (lvs cs a) (resolved cs (signed ks vs) a).1) (resolved cs (signed ks vs) a).2)) := fun g W hW hr =>
                sResolved_anyC A1 (some ⟨g, 0, none⟩) c1 cs.length cs (signed ks vs) a W (h1.keep hW) (Rd.of_row hr) (by rw [signed_length]; omega) h0 m1 haR hsg hG.op
              have K22 : Hid (∀ g k W, Upd [] w W → Row W g 3 (nums .i64 (resolved cs (signed ks vs) a).2) → cs.length ≤ k → Calls Tryz.prog 22 #[.slice A1 cs.length c1, .slice (some ⟨g, 0, none⟩) cs.length k, .int .i64 a, .slice A5 bs.length c5] W (RetRowC W 3 cs.length (nums .i64 (lnW cs (signed ks vs) a bs)))) := fun g k W hW hr hk =>
                lineLevels_any A1 (some ⟨g, 0, none⟩) A5 c1 k c5 cs (resolved cs (signed ks vs) a).2 a bs W (h1.keep hW) (Rd.of_row hr) (h5.keep hW) resolved_length.2 pb (by rw [resolved_length.2]; exact hk) m1 m5
              have K6 : Hid (∀ W, Upd [] w W → Calls Tryz.prog 23 #[.slice A1 cs.length c1, .slice A2 cs.length c2, .slice A3 cs.length c3, .int .i64 base, .slice A5 bs.length c5] W fun e w' => ∃ g1 g2 k2, e = .returned (.tuple #[.slice (some ⟨g1, 0, none⟩) cs.length cs.length, .slice (some ⟨g2, 0, none⟩) cs.length k2, .bool true]) ∧
                  Row w' g1 3 (nums .i64 (lnG cs (signed ks vs) a bs)) ∧ Row w' g2 3 (nums .i64 (nats (goLn (lnG cs (signed ks vs) a bs) bs bs.length))) ∧ w.heap.size ≤ g1 ∧ w.heap.size ≤ g2 ∧ Upd [] W w') := fun W hW => by
                have h := iLines_any A1 A2 A3 A5 c1 c2 c3 c5 base cs ks vs bs W hG (hT.upd hW (by simp)) (fun j hj => hpos j (by omega)) (h1.keep hW) (h2.keep hW) (h3.keep hW) (h5.keep hW) pb m5
                rw [← ha] at h
                exact h.mono fun e w' ⟨g1, g2, k2, e1, e2, e3, e4, e5, e6⟩ => ⟨g1, g2, k2, e1, e2, e3, Nat.le_trans hW.size e4, Nat.le_trans hW.size e5, e6⟩
              have HEQ : Hid (¬ ClosP cs a → LnF cs (lnG cs (signed ks vs) a bs) (lnW cs (signed ks vs) a bs) bs (goLn (lnG cs (signed ks vs) a bs) bs bs.length) (lineOrders (lnW cs (signed ks vs) a bs) bs)) := fun hC => by
                rw [ha] at hC ⊢; exact ln_facts hG hC pb
              obtain ⟨G, hGe⟩ : ∃ X, X = lnG cs (signed ks vs) a bs := ⟨_, rfl⟩
              obtain ⟨V, hVe⟩ : ∃ Y, Y = lnW cs (signed ks vs) a bs := ⟨_, rfl⟩
              rw [← hGe] at HEQ K6
              rw [← hVe] at HEQ K22
              obtain ⟨O, hOe⟩ : ∃ X, X = goLn G bs bs.length := ⟨_, rfl⟩
              obtain ⟨LO, hLe⟩ : ∃ X, X = lineOrders V bs := ⟨_, rfl⟩
              rw [← hOe] at HEQ K6
              rw [← hLe] at HEQ
              obtain ⟨X', hX'⟩ : ∃ X, X = tyI (lvs cs a) (resolved cs (signed ks vs) a).1 := ⟨_, rfl⟩
              obtain ⟨Y', hY'⟩ : ∃ Y, Y = (resolved cs (signed ks vs) a).2 := ⟨_, rfl⟩
              rw [← hX', ← hY'] at K5
              rw [← hY'] at K22
              have K12 : Hid (¬ ClosP cs a → ∀ g1 g3 k3 W, Row W g1 3 (nums .i64 G) → Row W g3 3 (nums .i64 V) → Calls Tryz.prog 12 #[.slice (some ⟨g1, 0, none⟩) cs.length cs.length, .slice (some ⟨g3, 0, none⟩) cs.length k3, .slice (some ⟨g3, 0, none⟩) cs.length k3] W fun e w' => e = .returned (.bool true) ∧ Upd [] W w') := fun hC g1 g3 k3 W r1 r3 => by
                have F := HEQ.out hC
                have h := sameWhere_true (some ⟨g1, 0, none⟩) (some ⟨g3, 0, none⟩) (some ⟨g3, 0, none⟩) cs.length k3 k3 G V V W (Rd.of_row r1) (Rd.of_row r3) (Rd.of_row r3) (by rw [F.gl, F.wl]) rfl (fun j hj hn => F.same j (by rw [← F.wl]; exact hj) hn) (by rw [F.wl]; exact m1)
                rw [F.wl] at h; exact h
              have K24 : Hid (¬ ClosP cs a → ∀ g1 k1 g3 k3 W, Row W g1 3 (nums .i64 (nats O)) → Row W g3 3 (nums .i64 V) → Calls Tryz.prog 24 #[.slice (some ⟨g1, 0, none⟩) cs.length k1, .slice (some ⟨g3, 0, none⟩) cs.length k3] W (RetRow W 3 LO.length (nums .i64 (nats LO)))) := fun hC g1 k1 g3 k3 W r1 r3 => by
                have F := HEQ.out hC
                have h := without_any (some ⟨g1, 0, none⟩) (some ⟨g3, 0, none⟩) k1 k3 O V W (Rd.of_row r1) (Rd.of_row r3) F.lt (by rw [F.ol]; exact m1) (by rw [F.wl]; exact m1)
                rw [F.ol, F.wl, F.out] at h; exact h
              have K25 : Hid (¬ ClosP cs a → ∀ g3 k3 W, Upd [] w W → Row W g3 3 (nums .i64 V) → cs.length ≤ k3 → Calls Tryz.prog 25 #[.slice (some ⟨g3, 0, none⟩) cs.length k3, .slice A5 bs.length c5] W (RetRow W 3 LO.length (nums .i64 (nats LO)))) := fun hC g3 k3 W hW r3 hk => by
                have F := HEQ.out hC
                have h := lineOrders_any (some ⟨g3, 0, none⟩) A5 k3 c5 V bs W (Rd.of_row r3) (h5.keep hW) (by rw [F.wl]; exact pb) F.top (by rw [F.wl]; exact h0) (by rw [F.wl]; exact hk) (by rw [F.wl]; exact m1) m5
                rw [F.wl, F.lo] at h; exact h
              have K19 : Hid (¬ ClosP cs a → ∀ g1 k1 g2 k2 W, Row W g1 3 (nums .i64 (nats LO)) → Row W g2 3 (nums .i64 (nats LO)) → Calls Tryz.prog 19 #[.slice (some ⟨g1, 0, none⟩) LO.length k1, .slice (some ⟨g2, 0, none⟩) LO.length k2] W fun e w' => e = .returned (.bool true) ∧ Upd [] W w') := fun hC g1 k1 g2 k2 W r1 r2 => by
                have F := HEQ.out hC
                have h := same_true (some ⟨g1, 0, none⟩) (some ⟨g2, 0, none⟩) k1 k2 (nats LO) W (Rd.of_row r1) (Rd.of_row r2) (by rw [nats_length]; have := F.ll; omega)
                rw [nats_length] at h; exact h
              rw [hkl, hvl] at D1
              rw [hkl] at q2; rw [hvl] at q3
              rw [hkl, hvl]
              clear C1 C21 hG hpos hsg hab haR hT h1 h2 h3 h5 HEQ hX' hY' hGe hVe hOe hLe p pb ha hkl hvl h0 hB
              by_cases hC : ClosP cs a
              · have K3' : Hid (∀ W, Upd [] w W → Calls Tryz.prog 8 #[.slice A1 cs.length c1, .int .i64 a] W fun e w' => e = .returned (.bool true) ∧ Upd [] W w') := fun W hW => (K3.out W hW).mono fun e w' ⟨⟨b, e1, e2⟩, e3⟩ => by
                  refine ⟨?_, e3⟩
                  cases b with
                  | true => exact e1
                  | false => have := e2.2 hC; cases this
                clear K3 K4 K5 K6 K12 K24 K25 K19 K22
                go_enter Tryz.func5, Tryz.ntmps5
                go_wp2_with (first
                  | (go_at_call 6; refine D1.out.mono ?_; rintro e w' ⟨rfl, rfl⟩)
                  | (go_at_call 21; refine D21.out.mono ?_; rintro e w' ⟨rfl, rfl⟩)
                  | (go_at_call 7; refine C2.mono ?_; rintro e w1 ⟨rfl, u1⟩; have k3 := K3'.out w1 u1)
                  | (go_at_call 8; refine k3.mono ?_; rintro e w2 ⟨rfl, u2⟩; have u12 := u1.trans u2))
                go_ret
                exact ⟨rfl, u12⟩
              · have K3' : Hid (∀ W, Upd [] w W → Calls Tryz.prog 8 #[.slice A1 cs.length c1, .int .i64 a] W fun e w' => e = .returned (.bool false) ∧ Upd [] W w') := fun W hW => (K3.out W hW).mono fun e w' ⟨⟨b, e1, e2⟩, e3⟩ => by
                  refine ⟨?_, e3⟩
                  cases b with
                  | false => exact e1
                  | true => exact absurd (e2.1 rfl) hC
                have K12 := Lib.hid (K12.out hC)
                have K24 := Lib.hid (K24.out hC)
                have K25 := Lib.hid (K25.out hC)
                have K19 := Lib.hid (K19.out hC)
                clear K3
                go_enter Tryz.func5, Tryz.ntmps5
                go_wp2_with (first
                  | (go_at_call 6; refine D1.out.mono ?_; rintro e w' ⟨rfl, rfl⟩)
                  | (go_at_call 21; refine D21.out.mono ?_; rintro e w' ⟨rfl, rfl⟩)
                  | (go_at_call 7; refine C2.mono ?_; rintro e w1 ⟨rfl, u1⟩; have k3 := K3'.out w1 u1)
                  | (go_at_call 8; refine k3.mono ?_; rintro e w2 ⟨rfl, u2⟩; have u12 := u1.trans u2; obtain ⟨g4, hg4, k4⟩ := K4.out w2 u12)
                  | (go_at_call 10; refine k4.mono ?_; rintro e w3 ⟨rfl, r3, u3⟩; have u13 := u12.trans u3; have k5 := K5.out g4 w3 u13 r3)
                  | (go_at_call 9; refine k5.mono ?_; rintro e w4 ⟨g5, k5', g6, k6', hk6, rfl, hg5, hg6, hg56, r5, r6, u4⟩; have u14 := u13.trans u4; have k22 := K22.out g6 k6' w4 u14 r6 hk6)
                  | (go_at_call 22; refine k22.mono ?_; rintro e w5 ⟨g7, k7', hk7, rfl, hg7, r7, u5⟩; have u15 := u14.trans u5; have k6 := K6.out w5 u15)
                  | (go_at_call 23; refine k6.mono ?_; rintro e w6 ⟨g8, g9, k9', rfl, r8, r9, hg8, hg9, u6⟩; have u16 := u15.trans u6; have r7b := r7.upd u6 (by simp); have k12 := K12.out g8 g7 k7' w6 r8 r7b)
                  | (go_at_call 12; refine k12.mono ?_; rintro e w7 ⟨rfl, u7⟩; have u17 := u16.trans u7; have r7c := r7b.upd u7 (by simp); have k24 := K24.out g9 k9' g7 k7' w7 (r9.upd u7 (by simp)) r7c)
                  | (go_at_call 24; refine k24.mono ?_; rintro e w8 ⟨g10, k10', rfl, hg10, r10, u8⟩; have u18 := u17.trans u8; have k25 := K25.out g7 k7' w8 u18 (r7c.upd u8 (by simp)) hk7)
                  | (go_at_call 25; refine k25.mono ?_; rintro e w9 ⟨g11, k11', rfl, hg11, r11, u9⟩; have u19 := u18.trans u9; have k19 := K19.out g10 k10' g11 k11' w9 (r10.upd u9 (by simp)) r11)
                  | (go_at_call 19; refine k19.mono ?_; rintro e w10 ⟨rfl, u10⟩))
                go_ret
                exact ⟨rfl, u19.trans u10⟩
            · have D21 := Lib.hid (C21.mono (fun e w' h => And.intro (h.1.no1 pb) h.2))
              clear C1 C21 p pb
              go_enter Tryz.func5, Tryz.ntmps5
              go_wp2_with (first
                | (go_at_call 6; refine D1.out.mono ?_; rintro e w' ⟨rfl, rfl⟩)
                | (go_at_call 21; refine D21.out.mono ?_; rintro e w' ⟨rfl, rfl⟩))
              go_ret
              exact ⟨rfl, Upd.refl _ _⟩
          · have D1 := Lib.hid (C1.mono (fun e w' h => And.intro (h.1.no1 p) h.2))
            clear C1 C21 p
            go_enter Tryz.func5, Tryz.ntmps5
            go_wp2_with (go_at_call 6; refine D1.out.mono ?_; rintro e w' ⟨rfl, rfl⟩)
            go_ret
            exact ⟨rfl, Upd.refl _ _⟩
        · have q5 : decide ((2147483647 : Int) < (bs.length : Int)) = true := by simp; omega
          clear m1 m2 m3 m5
          go_enter Tryz.func5, Tryz.ntmps5
          go_wp2
          go_ret
          exact ⟨rfl, Upd.refl _ _⟩
      · have q3 : decide ((2147483647 : Int) < (vs.length : Int)) = true := by simp; omega
        clear m1 m2 m3
        go_enter Tryz.func5, Tryz.ntmps5
        go_wp2
        go_ret
        exact ⟨rfl, Upd.refl _ _⟩
    · have q2 : decide ((2147483647 : Int) < (ks.length : Int)) = true := by simp; omega
      clear m1 m2
      go_enter Tryz.func5, Tryz.ntmps5
      go_wp2
      go_ret
      exact ⟨rfl, Upd.refl _ _⟩
  · have q1 : decide ((2147483647 : Int) < (ts.length : Int)) = true := by simp; omega
    clear m1
    go_enter Tryz.func5, Tryz.ntmps5
    go_wp2
    go_ret
    exact ⟨rfl, Upd.refl _ _⟩
end Go.Proofs.YtjahmnenfknjgaaGreatDoor
