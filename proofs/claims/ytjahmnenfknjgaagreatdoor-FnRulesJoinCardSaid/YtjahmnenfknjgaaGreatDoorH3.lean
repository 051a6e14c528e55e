/- One chain of the law FnRulesJoin: all calls of its round, by contracts over opaque lists. -/
import Derived.Test.YtjahmnenfknjgaaGreatDoorH1
import Derived.Test.YtjahmnenfknjgaaGreatDoorH2
import Derived.Test.YtjahmnenfknjgaaGreatDoorG4
import Derived.Deep.RegionHeld3
set_option linter.unusedVariables false
set_option linter.unusedSimpArgs false
namespace Go.Proofs.YtjahmnenfknjgaaGreatDoor
open Go.RowKit

/-- The calls of one round: I the classes, K and V the brackets, F, G, N the types behind W1 to W7, N0, N1 and N2, Z the levels. -/
structure JC (w : World) (n m : Nat) (A2 A3 : Option Addr) (c2 c3 : Nat) (P : List Nat) (lev : Int) (so eo : Cl) (C X Y I K V F G N Z : List Int) : Prop where
  t1 : ∀ g k gp cp W, Upd [] w W → Row W g 3 (nums .i64 C) → Row W gp 3 (nums .i64 (nats P)) → Calls Tryz.prog 15 #[.slice (some ⟨g, 0, none⟩) n k, .slice (some ⟨gp, 0, none⟩) m cp] W fun e w' => ∃ h c, e = .returned (.slice (some ⟨h, 0, none⟩) m c) ∧ Row w' h 3 (nums .i64 I) ∧ Upd [] W w'
  tk : ∀ gp cp W, Upd [] w W → Row W gp 3 (nums .i64 (nats P)) → Calls Tryz.prog 15 #[.slice A2 n c2, .slice (some ⟨gp, 0, none⟩) m cp] W fun e w' => ∃ h c, e = .returned (.slice (some ⟨h, 0, none⟩) m c) ∧ Row w' h 3 (nums .i64 K) ∧ Upd [] W w'
  tv : ∀ gp cp W, Upd [] w W → Row W gp 3 (nums .i64 (nats P)) → Calls Tryz.prog 15 #[.slice A3 n c3, .slice (some ⟨gp, 0, none⟩) m cp] W fun e w' => ∃ h c, e = .returned (.slice (some ⟨h, 0, none⟩) m c) ∧ Row w' h 3 (nums .i64 V) ∧ Upd [] W w'
  cw : ∀ g k W, Upd [] w W → Row W g 3 (nums .i64 I) → Calls Tryz.prog 16 #[.slice (some ⟨g, 0, none⟩) m k, .int .i64 so.e1, .int .i64 eo.e1] W fun e w' => ∃ h, e = .returned (.tuple #[.slice (some ⟨h, 0, none⟩) m m, .bool true]) ∧ Row w' h 3 (nums .i64 F) ∧ Upd [] W w'
  cb : ∀ g1 k1 g2 k2 g3 k3 g4 k4 W, Upd [] w W → Row W g1 3 (nums .i64 F) → Row W g2 3 (nums .i64 I) → Row W g3 3 (nums .i64 K) → Row W g4 3 (nums .i64 V) →
    Calls Tryz.prog 17 #[.slice (some ⟨g1, 0, none⟩) m k1, .slice (some ⟨g2, 0, none⟩) m k2, .slice (some ⟨g3, 0, none⟩) m k3, .slice (some ⟨g4, 0, none⟩) m k4, .int .i64 lev, .int .i64 so.e1] W fun e w' => ∃ h, e = .returned (.slice (some ⟨h, 0, none⟩) m m) ∧ Row w' h 3 (nums .i64 G) ∧ Upd [] W w'
  cn : ∀ g k W, Upd [] w W → Row W g 3 (nums .i64 G) → Calls Tryz.prog 18 #[.slice (some ⟨g, 0, none⟩) m k, .int .i64 lev, .int .i64 so.e1, .int .i64 eo.e1] W fun e w' => ∃ h, e = .returned (.tuple #[.slice (some ⟨h, 0, none⟩) m m, .bool true]) ∧ Row w' h 3 (nums .i64 N) ∧ Upd [] W w'
  t2 : ∀ g k gp cp W, Upd [] w W → Row W g 3 (nums .i64 X) → Row W gp 3 (nums .i64 (nats P)) → Calls Tryz.prog 15 #[.slice (some ⟨g, 0, none⟩) n k, .slice (some ⟨gp, 0, none⟩) m cp] W fun e w' => ∃ h c, e = .returned (.slice (some ⟨h, 0, none⟩) m c) ∧ Row w' h 3 (nums .i64 N) ∧ Upd [] W w'
  s2 : ∀ g k g' k' W, Row W g 3 (nums .i64 N) → Row W g' 3 (nums .i64 N) → Calls Tryz.prog 19 #[.slice (some ⟨g, 0, none⟩) m k, .slice (some ⟨g', 0, none⟩) m k'] W fun e w' => e = .returned (.bool true) ∧ Upd [] W w'
  ci : ∀ g k W, Upd [] w W → Row W g 3 (nums .i64 N) → Calls Tryz.prog 20 #[.slice (some ⟨g, 0, none⟩) m k, .int .i64 lev] W fun e w' => ∃ h, e = .returned (.tuple #[.slice (some ⟨h, 0, none⟩) m m, .bool true]) ∧ Row w' h 3 (nums .i64 Z) ∧ Upd [] W w'
  t3 : ∀ g k gp cp W, Upd [] w W → Row W g 3 (nums .i64 Y) → Row W gp 3 (nums .i64 (nats P)) → Calls Tryz.prog 15 #[.slice (some ⟨g, 0, none⟩) n k, .slice (some ⟨gp, 0, none⟩) m cp] W fun e w' => ∃ h c, e = .returned (.slice (some ⟨h, 0, none⟩) m c) ∧ Row w' h 3 (nums .i64 Z) ∧ Upd [] W w'
  s3 : ∀ g k g' k' W, Row W g 3 (nums .i64 Z) → Row W g' 3 (nums .i64 Z) → Calls Tryz.prog 19 #[.slice (some ⟨g, 0, none⟩) m k, .slice (some ⟨g', 0, none⟩) m k'] W fun e w' => e = .returned (.bool true) ∧ Upd [] W w'

theorem take_all {l : List Int} {P : List Nat} {n : Nat} (hl : l.length = n) (hP : ∀ x, x ∈ P → x < n) (h0 : 0 < P.length) (hm : P.length ≤ 2147483647) (hn : n ≤ 2147483647) {A : Option Addr} {c gp cp : Nat} {W : World} (hr : Rd W A (nums .i64 l)) (hp : Row W gp 3 (nums .i64 (nats P))) :
    Calls Tryz.prog 15 #[.slice A n c, .slice (some ⟨gp, 0, none⟩) P.length cp] W fun e w' => ∃ h c, e = .returned (.slice (some ⟨h, 0, none⟩) P.length c) ∧ Row w' h 3 (nums .i64 (pick l P)) ∧ Upd [] W w' := by
  have h := take_any A (some ⟨gp, 0, none⟩) c cp l P W hr (Rd.of_row hp) (fun j hj => by rw [hl]; exact hP _ (nat_mem hj)) h0 hm (by omega)
  rw [hl] at h
  exact h.mono fun e w' ⟨g, c, a1, a2, a3, a4⟩ => ⟨g, c, a1, a3, a4⟩
theorem pick_cls (T : List Cl) {P : List Nat} (h : ∀ x, x ∈ P → x < T.length) : pick (clsI T) P = clsI (cIni T P) := by
  unfold pick cIni clsI
  rw [List.map_map]
  exact List.map_congr_left fun q hq => nth_clsI (h q hq)
set_option maxHeartbeats 4000000 in
theorem joinC {cs : List Cl} {ks vs : List Int} {a : Int} {w : World} {A2 A3 : Option Addr} {c2 c3 : Nat} (hG : PGd cs ks vs a) (ha : a = 0 ∨ a = 1) (hC : ¬ ClosP cs a) (hT : Tab w) (h2 : Rd w A2 (nums .i64 ks)) (h3 : Rd w A3 (nums .i64 vs)) (hvr : ∀ j, j < cs.length → 0 ≤ nth vs j ∧ nth vs j ≤ 1114111)
    {pl : List Nat} (hpl : pl ∈ chnsP cs (klv cs (plvs cs a))) :
    ∃ I K V F G N Z, JC w cs.length pl.length A2 A3 c2 c3 pl (chnP cs (plvs cs a) (ptys cs a) a pl).lev (chnP cs (plvs cs a) (ptys cs a) a pl).so (chnP cs (plvs cs a) (ptys cs a) a pl).eo (clsI (ptys cs a)) (clsI (ownTs cs (wholeP cs (signed ks vs) a).1)) (lents cs (wholeP cs (signed ks vs) a).2 a) I K V F G N Z := by
  have hm := hG.hm
  obtain ⟨hup, hne, hin, hlen⟩ := chn_mem (fun q hq _ => by rw [nth_plvs hq]; exact (plv_range ha q).1) hpl
  have h0 := List.length_pos_iff.2 hne
  have hlev : 0 ≤ (chnP cs (plvs cs a) (ptys cs a) a pl).lev ∧ (chnP cs (plvs cs a) (ptys cs a) a pl).lev ≤ 125 := by
    have hf := hin _ (first_mem hne)
    have := plv_range (cs := cs) ha (nat pl 0)
    unfold chnP; simp only; rw [nth_plvs hf.1]; exact this
  have hso : (chnP cs (plvs cs a) (ptys cs a) a pl).so = .L ∨ (chnP cs (plvs cs a) (ptys cs a) a pl).so = .R := dirOf_strong _
  have heo : (chnP cs (plvs cs a) (ptys cs a) a pl).eo = .L ∨ (chnP cs (plvs cs a) (ptys cs a) a pl).eo = .R := dirOf_strong _
  have hTT := take_types (br := signed ks vs) ha hG.hB hpl hin
  have hRJ := rules_join (vs := vs) ha hG.hB hC hG.kn hin (chnP cs (plvs cs a) (ptys cs a) a pl).lev (chnP cs (plvs cs a) (ptys cs a) a pl).so (chnP cs (plvs cs a) (ptys cs a) a pl).eo
  have hce : (⟨pl, (chnP cs (plvs cs a) (ptys cs a) a pl).lev, (chnP cs (plvs cs a) (ptys cs a) a pl).so, (chnP cs (plvs cs a) (ptys cs a) a pl).eo⟩ : Chn) = chnP cs (plvs cs a) (ptys cs a) a pl := rfl
  rw [hce] at hRJ
  rw [← hRJ] at hTT
  generalize (chnP cs (plvs cs a) (ptys cs a) a pl).lev = lev at *
  generalize (chnP cs (plvs cs a) (ptys cs a) a pl).so = so at *
  generalize (chnP cs (plvs cs a) (ptys cs a) a pl).eo = eo at *
  have e : ∀ (l : List Int) (j : Nat), j < pl.length → nth (pick l pl) j = nth l (nat pl j) := fun l j hj => by simp [nth, pick, nat, hj]
  have hiniL : (cIni (ptys cs a) pl).length = pl.length := cIni_length _ _
  have hini : AllC Cl.p0 (cIni (ptys cs a) pl) := fun j hj => by
    rw [hiniL] at hj
    have hk := hin _ (nat_mem hj)
    rw [cat_cIni hj, cat_ptys hk.1]; exact pty_p0 ha hk.2
  have hmkI : ∀ j, j < pl.length → nth (pick ks pl) j ≠ 0 → cat (cIni (ptys cs a) pl) j ≠ .NSM := fun j hj hn hc => by
    have hk := hin _ (nat_mem hj)
    rw [e _ j hj] at hn
    rw [cat_cIni hj, pty_xty hk.1 hC hk.2] at hc
    exact hG.nm _ hk.1 hn ((ty_nsm ha hk.1 hC).1 hc)
  have hopI : opc (signed (pick ks pl) (pick vs pl)) pl.length ≤ 63 := by
    rw [pick_signed (fun x hx => by rw [hG.kn]; exact (hin x hx).1)]
    exact opc_pick_le hup (fun x hx => (hin x hx).1) rfl hG.op
  have hwk := weakP_isN hini hso
  have hwkL : (weakP (cIni (ptys cs a) pl) so).length = pl.length := by rw [weakP_length, hiniL]
  have hbk := brS_isN (ini := cIni (ptys cs a) pl) (br := signed (pick ks pl) (pick vs pl)) (level := lev) hwk hso
  have hbkL : (brS (weakP (cIni (ptys cs a) pl) so) (cIni (ptys cs a) pl) (signed (pick ks pl) (pick vs pl)) lev so).length = pl.length := by rw [brS_length, hwkL]
  have hnt := neuS_p4 (level := lev) (eos := eo) hbk hso
  have hntL : (neuS (brS (weakP (cIni (ptys cs a) pl) so) (cIni (ptys cs a) pl) (signed (pick ks pl) (pick vs pl)) lev so) lev so eo).length = pl.length := by rw [neuS_length, hbkL]
  have hmm : pl.length ≤ 2147483647 := by omega
  generalize hW : weakP (cIni (ptys cs a) pl) so = wk at *
  generalize hBk : brS wk (cIni (ptys cs a) pl) (signed (pick ks pl) (pick vs pl)) lev so = bk at *
  generalize hN : neuS bk lev so eo = nt at *
  have hlx : ∀ x, x ∈ pl → x < cs.length := fun x hx => (hin x hx).1
  refine ⟨clsI (cIni (ptys cs a) pl), pick ks pl, pick vs pl, clsI wk, clsI bk, clsI nt, impS nt lev, ?_, ?_, ?_, ?_, ?_, ?_, ?_, ?_, ?_, ?_, ?_⟩
  · intro g k gp cp W hW' hr hp
    have h := take_all (l := clsI (ptys cs a)) (P := pl) (n := cs.length) (by rw [clsI_length, ptys_length]) hlx h0 hmm hm (A := some ⟨g, 0, none⟩) (c := k) (gp := gp) (cp := cp) (W := W) (Rd.of_row hr) hp
    rw [pick_cls _ (fun x hx => by rw [ptys_length]; exact hlx x hx)] at h; exact h
  · intro gp cp W hW' hp
    exact take_all hG.kn hlx h0 hmm hm (h2.keep hW') hp
  · intro gp cp W hW' hp
    exact take_all hG.vn hlx h0 hmm hm (h3.keep hW') hp
  · intro g k W hW' hr
    have h := iWeak_any (some ⟨g, 0, none⟩) k (cIni (ptys cs a) pl) so eo W (hT.upd hW' (by simp)) (Rd.of_row hr) hini hso heo (by rw [hiniL]; exact hmm)
    rw [hiniL, hW] at h
    exact h.mono fun _ _ ⟨x, a1, _, a3, a4⟩ => ⟨x, a1, a3, a4⟩
  · intro g1 k1 g2 k2 g3 k3 g4 k4 W hW' r1 r2 r3 r4
    have h := iBrackets_any (some ⟨g1, 0, none⟩) (some ⟨g2, 0, none⟩) (some ⟨g3, 0, none⟩) (some ⟨g4, 0, none⟩) k1 k2 k3 k4 wk (cIni (ptys cs a) pl) (pick ks pl) (pick vs pl) lev so W (hT.upd hW' (by simp)) (Rd.of_row r1) (Rd.of_row r2) (Rd.of_row r3) (Rd.of_row r4)
      (by rw [hiniL, hwkL]) (by rw [pick_length, hwkL]) (by rw [pick_length, hwkL]) (by rw [hwkL]; exact hmm) (by rw [hwkL]; exact h0) (fun j hj => by rw [hwkL] at hj; rw [e _ j hj]; exact hvr _ (hlx _ (nat_mem hj)))
      (fun j hj => by rw [hwkL] at hj; rw [e _ j hj]; exact hG.kO _ (hlx _ (nat_mem hj))) (fun j hj hn => by rw [hwkL] at hj; rw [e _ j hj] at hn ⊢; exact hG.vO _ (hlx _ (nat_mem hj)) hn) (fun j hj => by rw [hwkL] at hj; exact hmkI j hj) (by rw [hwkL]; exact hopI) hwk hlev.1 (by omega) hso
    rw [hwkL, hBk] at h
    exact h.mono fun _ _ ⟨x, a1, _, a3, a4⟩ => ⟨x, a1, a3, a4⟩
  · intro g k W hW' hr
    have h := iNeutral_any (some ⟨g, 0, none⟩) k bk lev so eo W (hT.upd hW' (by simp)) (Rd.of_row hr) hbk hso heo hlev.1 (by omega) (by rw [hbkL]; exact hmm)
    rw [hbkL, hN] at h
    exact h.mono fun _ _ ⟨x, a1, _, a3, a4⟩ => ⟨x, a1, a3, a4⟩
  · intro g k gp cp W hW' hr hp
    have h := take_all (l := clsI (ownTs cs (wholeP cs (signed ks vs) a).1)) (P := pl) (n := cs.length) (by rw [clsI_length]; unfold ownTs; rw [lst_length]; exact whole_length.1) hlx h0 hmm hm (A := some ⟨g, 0, none⟩) (c := k) (gp := gp) (cp := cp) (W := W) (Rd.of_row hr) hp
    rw [hTT.1] at h; exact h
  · intro g k g' k' W r1 r2
    have h := same_true (some ⟨g, 0, none⟩) (some ⟨g', 0, none⟩) k k' (clsI nt) W (Rd.of_row r1) (Rd.of_row r2) (by rw [clsI_length, hntL]; exact hmm)
    rw [clsI_length, hntL] at h; exact h
  · intro g k W hW' hr
    have h := iImplicit_any (some ⟨g, 0, none⟩) k nt lev W (hT.upd hW' (by simp)) (Rd.of_row hr) hnt hlev.1 hlev.2 (by rw [hntL]; exact hmm)
    rw [hntL] at h
    exact h.mono fun _ _ ⟨x, a1, _, a3, a4⟩ => ⟨x, a1, a3, a4⟩
  · intro g k gp cp W hW' hr hp
    have h := take_all (l := lents cs (wholeP cs (signed ks vs) a).2 a) (P := pl) (n := cs.length) (lents_length _ _ _) hlx h0 hmm hm (A := some ⟨g, 0, none⟩) (c := k) (gp := gp) (cp := cp) (W := W) (Rd.of_row hr) hp
    rw [hTT.2] at h; exact h
  · intro g k g' k' W r1 r2
    have h := same_true (some ⟨g, 0, none⟩) (some ⟨g', 0, none⟩) k k' (impS nt lev) W (Rd.of_row r1) (Rd.of_row r2) (by rw [impS_length, hntL]; exact hmm)
    rw [impS_length, hntL] at h; exact h
end Go.Proofs.YtjahmnenfknjgaaGreatDoor
namespace Go.Proofs.YtjahmnenfknjgaaGreatDoor
open Go.RowKit

set_option maxHeartbeats 16000000 in
set_option maxRecDepth 100000 in
theorem lawJoin_any (A1 A2 A3 : Option Addr) (c1 c2 c3 : Nat) (base : Int) (ts ks vs : List Int) (w : World) (hT : Tab w)
    (h1 : Rd w A1 (nums .i64 ts)) (h2 : Rd w A2 (nums .i64 ks)) (h3 : Rd w A3 (nums .i64 vs)) :
    Calls Tryz.prog 4 #[.slice A1 ts.length c1, .slice A2 ks.length c2, .slice A3 vs.length c3, .int .i64 base] w fun e w' => e = .returned (.bool true) ∧ Upd [] w w' := by
  by_cases m1 : ts.length ≤ 2147483647
  · by_cases m2 : ks.length ≤ 2147483647
    · by_cases m3 : vs.length ≤ 2147483647
      · have C1 := isCase_any A1 A2 A3 c1 c2 c3 ts ks vs base w h1 h2 h3 m1 m2 m3
        have q1 : decide ((2147483647 : Int) < (ts.length : Int)) = false := by simp; omega
        have q2 : decide ((2147483647 : Int) < (ks.length : Int)) = false := by simp; omega
        have q3 : decide ((2147483647 : Int) < (vs.length : Int)) = false := by simp; omega
        by_cases p : CaseP ts ks vs base
        · have D1 := Lib.hid (C1.mono (fun e w' h => And.intro (h.1.yes1 p) h.2))
          by_cases hb0 : base < 0
          · have q4 : decide (base < 0) = true := by simpa using hb0
            clear C1 p hb0
            go_enter Tryz.func4, Tryz.ntmps4
            go_wp2_with (go_at_call 6; refine D1.out.mono ?_; rintro e w' ⟨rfl, rfl⟩)
            go_ret
            exact ⟨rfl, Upd.refl _ _⟩
          have q4 : decide (base < 0) = false := by simpa using hb0
          obtain ⟨cs, rfl, h0, hB⟩ := par_cls p.1
          rw [clsI_length] at *
          have hG := case_guards p hB h0 m1
          have hkl := hG.kn
          have hvl := hG.vn
          have haR : base = 0 ∨ base = 1 := by have := hG.em; omega
          have hla : lvAt cs base = base := by unfold lvAt; rw [if_neg (by omega)]
          have hpos : ∀ j, j < cs.length → 0 ≤ nth vs j ∧ nth vs j ≤ 1114111 := fun j hj => by
            have := p.2.1.2.2 j (by rw [clsI_length]; omega)
            by_cases hz : nth ks j = 0
            · rw [this.2.2.1 hz]; omega
            · have := this.2.2.2 (by omega); omega
          have K3 : Hid (Calls Tryz.prog 8 #[.slice A1 cs.length c1, .int .i64 base] w fun e w' => SaysB (ClosP cs base) e ∧ Upd [] w w') := closes_any A1 c1 cs base w h1 h0 m1 haR
          rw [hkl, hvl] at D1
          rw [hkl] at q2; rw [hvl] at q3
          rw [hkl, hvl]
          by_cases hC : ClosP cs base
          · have K3' : Hid (Calls Tryz.prog 8 #[.slice A1 cs.length c1, .int .i64 base] w fun e w' => e = .returned (.bool true) ∧ Upd [] w w') := K3.out.mono fun e w' ⟨⟨b, e1, e2⟩, e3⟩ => by
              refine ⟨?_, e3⟩
              cases b with
              | true => exact e1
              | false => have := e2.2 hC; cases this
            clear K3 C1 hG hpos haR hT h1 h2 h3 p hkl hvl h0 hB hC hla hb0
            go_enter Tryz.func4, Tryz.ntmps4
            go_wp2_with (first
              | (go_at_call 6; refine D1.out.mono ?_; rintro e w' ⟨rfl, rfl⟩)
              | (go_at_call 8; refine K3'.out.mono ?_; rintro e w2 ⟨rfl, u2⟩))
            go_ret
            exact ⟨rfl, u2⟩
          have K3' : Hid (Calls Tryz.prog 8 #[.slice A1 cs.length c1, .int .i64 base] w fun e w' => e = .returned (.bool false) ∧ Upd [] w w') := K3.out.mono fun e w' ⟨⟨b, e1, e2⟩, e3⟩ => by
              refine ⟨?_, e3⟩
              cases b with
              | false => exact e1
              | true => exact absurd (e2.1 rfl) hC
          have K6 : Hid (∀ W, Upd [] w W → Calls Tryz.prog 11 #[.slice A1 cs.length c1, .slice A2 cs.length c2, .slice A3 cs.length c3, .int .i64 base] W fun e w' => ∃ g1 g2, e = .returned (.tuple #[.slice (some ⟨g1, 0, none⟩) cs.length cs.length, .slice (some ⟨g2, 0, none⟩) cs.length cs.length, .int .i64 base, .bool true]) ∧
              Row w' g1 3 (nums .i64 (clsI (ownTs cs (wholeP cs (signed ks vs) base).1))) ∧ Row w' g2 3 (nums .i64 (lents cs (wholeP cs (signed ks vs) base).2 base)) ∧ Upd [] W w') := fun W hW => by
            have h := iResolve_any A1 A2 A3 c1 c2 c3 base cs ks vs W hG (hT.upd hW (by simp)) hpos (h1.keep hW) (h2.keep hW) (h3.keep hW)
            rw [hla] at h
            exact h.mono fun e w' ⟨g1, g2, e1, e2, e3, e4, e5, e6⟩ => ⟨g1, g2, e1, e2, e3, e6⟩
          have K7 : Hid (∀ W, Upd [] w W → Calls Tryz.prog 13 #[.slice A1 cs.length c1, .int .i64 base] W fun e w' => ∃ g1 g2, e = .returned (.tuple #[.slice (some ⟨g1, 0, none⟩) cs.length cs.length, .slice (some ⟨g2, 0, none⟩) cs.length cs.length]) ∧ Row w' g1 3 (nums .i64 (clsI (ptys cs base))) ∧ Upd [] W w') := fun W hW =>
            (iExplicit_any A1 c1 cs base W (hT.upd hW (by simp)) (h1.keep hW) haR hB m1).mono fun e w' ⟨g1, g2, e1, e2, _, e4⟩ => ⟨g1, g2, e1, e2, e4⟩
          have K8 : Hid (∀ W, Upd [] w W → Calls Tryz.prog 14 #[.slice A1 cs.length c1, .int .i64 base] W fun e w' => ∃ (v : Value) (R : List IR), e = .returned v ∧ R.map IR.pl = chnsP cs (klv cs (plvs cs base)) ∧ w'.ownsRow W.heap.size 36 4 v R.length (iOuts cs (ptys cs base) (plvs cs base) base R) ∧ (∀ r, r ∈ R → Row w' r.g 3 (nums .i64 (nats r.pl)) ∧ W.heap.size ≤ r.g) ∧ Upd [] W w') := fun W hW =>
            iSeqs_any A1 c1 cs base W (hT.upd hW (by simp)) (h1.keep hW) haR hB m1
          have hcnt : (chnsP cs (klv cs (plvs cs base))).length ≤ cs.length := by
            unfold chnsP
            rw [List.length_map]
            have h1 := List.length_filter_le (begins cs) (runs (klv cs (plvs cs base)))
            have h2 := rst_len (klv cs (plvs cs base)) (klv cs (plvs cs base)).length
            have h3 : (runs (klv cs (plvs cs base))).length = (rst (klv cs (plvs cs base)) (klv cs (plvs cs base)).length).1.length := rfl
            rw [klv_length] at h2 h3
            omega
          obtain ⟨X, hX⟩ : ∃ X, X = clsI (ownTs cs (wholeP cs (signed ks vs) base).1) := ⟨_, rfl⟩
          obtain ⟨Y, hY⟩ : ∃ Y, Y = lents cs (wholeP cs (signed ks vs) base).2 base := ⟨_, rfl⟩
          obtain ⟨C, hCC⟩ : ∃ C, C = clsI (ptys cs base) := ⟨_, rfl⟩
          have HJ : Hid (∀ pl, pl ∈ chnsP cs (klv cs (plvs cs base)) → ∃ I K V F G N Z, JC w cs.length pl.length A2 A3 c2 c3 pl (chnP cs (plvs cs base) (ptys cs base) base pl).lev (chnP cs (plvs cs base) (ptys cs base) base pl).so (chnP cs (plvs cs base) (ptys cs base) base pl).eo C X Y I K V F G N Z) := fun pl h => by
            rw [hX, hY, hCC]; exact joinC hG haR hC hT h2 h3 hpos h
          rw [← hX, ← hY] at K6
          rw [← hCC] at K7
          clear K3 C1 hG hpos haR hT h1 h2 h3 p hkl hvl h0 hB hC hla hb0 hX hY hCC
          go_enter Tryz.func4, Tryz.ntmps4
          go_wp2_with (first
            | (go_at_call 6; refine D1.out.mono ?_; rintro e w' ⟨rfl, rfl⟩)
            | (go_at_call 8; refine K3'.out.mono ?_; rintro e w2 ⟨rfl, u2⟩; have k6 := K6.out w2 u2)
            | (go_at_call 11; refine k6.mono ?_; rintro e w3 ⟨gX, gY, rfl, rX3, rY3, u3⟩; have u13 := u2.trans u3; have k7 := K7.out w3 u13)
            | (go_at_call 13; refine k7.mono ?_; rintro e w4 ⟨gC, gD, rfl, rC4, u4⟩; have u14 := u13.trans u4; have k8 := K8.out w4 u14)
            | (go_at_call 14; refine k8.mono ?_; rintro e w5 ⟨v, R, rfl, hRl, hv, hR, u5⟩; have u15 := u14.trans u5; obtain ⟨Av, cp, rfl, hAF⟩ := owns_form hv))
          have rX := (rX3.upd u4 (by simp)).upd u5 (by simp)
          have rY := (rY3.upd u4 (by simp)).upd u5 (by simp)
          have rC := rC4.upd u5 (by simp)
          have hRn : R.length ≤ cs.length := by
            have := congrArg List.length hRl
            rw [List.length_map] at this; omega
          have HX := Lib.hid rX
          have HY := Lib.hid rY
          have HC := Lib.hid rC
          have HAF := Lib.hid hAF
          have HRL := Lib.hid hRl
          have HR := Lib.hid hR
          have HU := Lib.hid u15
          clear rX rY rC rX3 rY3 rC4 u2 u3 u4 u5 u13 u14 u15 k6 k7 k8 hAF hRl hR hv hcnt
          go_loopg [91] (R.length + 1) (fun k i wr => ∃ j : Nat, i = .int .i64 j ∧ j ≤ R.length ∧ Hid (Upd [] w5 wr) ∧ Hid (R.length + 1 - j ≤ k))
          case atStart => exact ⟨0, rfl, by omega, Upd.refl _ _, Nat.le_refl _⟩
          case round =>
            obtain ⟨j, rfl, hj, hu, hk⟩ := hrel
            by_cases hlt : j < R.length
            · obtain ⟨gA, rfl, hrow, hgA⟩ := HAF.out (by omega)
              have hrowr := hrow.upd hu.out (by simp)
              have hgget : ∀ k, (hk4 : k < 4) → wr.cell? ⟨gA, j * 4 + k, none⟩ = (iOut cs (ptys cs base) (plvs cs base) base R[j])[k]? := fun k hk4 => by
                have hl := iOuts_length cs (ptys cs base) (plvs cs base) base R
                have h := hrowr.cell (j * 4 + k) (by omega)
                rw [h, ← List.getElem?_eq_getElem]
                exact quad_get _ (fun _ => rfl) R j k hlt hk4
              have z0 := hgget 0 (by decide)
              have z1 := hgget 1 (by decide)
              have z2 := hgget 2 (by decide)
              have z3 := hgget 3 (by decide)
              rw [Nat.add_zero] at z0
              simp only [iOut, List.getElem?_cons_zero, List.getElem?_cons_succ] at z0 z1 z2 z3
              have hRr := HR.out R[j] (List.getElem_mem hlt)
              have hmem : R[j].pl ∈ chnsP cs (klv cs (plvs cs base)) := by rw [← HRL.out]; exact List.mem_map_of_mem (List.getElem_mem hlt)
              obtain ⟨I, K, V, F, G, N, Z, hJ⟩ := HJ.out _ hmem
              obtain ⟨r, hre⟩ : ∃ r, r = R[j] := ⟨_, rfl⟩
              rw [← hre] at z0 z1 z2 z3 hRr hJ
              generalize (chnP cs (plvs cs base) (ptys cs base) base r.pl).lev = lev at z1 hJ
              generalize (chnP cs (plvs cs base) (ptys cs base) base r.pl).so = so at z2 hJ
              generalize (chnP cs (plvs cs base) (ptys cs base) base r.pl).eo = eo at z3 hJ
              have JJ := Lib.hid hJ
              have hbb : ((r.pl.length : Int) != (r.pl.length : Int)) = false := by simp
              obtain ⟨bs, hbs⟩ : ∃ bs, bs = wr.heap.size := ⟨_, rfl⟩
              obtain ⟨w6, hw6⟩ : ∃ w6, w6 = wr.alloc (.cells #[.slice (some ⟨r.g, 0, none⟩) r.pl.length r.c, .int .i64 lev, .int .i64 so.e1, .int .i64 eo.e1] 36) := ⟨_, rfl⟩
              have hS6 : Row w6 bs 36 [.slice (some ⟨r.g, 0, none⟩) r.pl.length r.c, .int .i64 lev, .int .i64 so.e1, .int .i64 eo.e1] := by rw [hw6, hbs]; exact Row.new wr 36 _
              have hu6 : Upd [] wr w6 := by rw [hw6]; exact (Upd.refl _ _).alloc _
              have HB : Hid (∀ W, Upd [] w6 W → W.cell? ⟨bs, 0, none⟩ = some (.slice (some ⟨r.g, 0, none⟩) r.pl.length r.c) ∧ W.cell? ⟨bs, 1, none⟩ = some (.int .i64 lev) ∧ W.cell? ⟨bs, 2, none⟩ = some (.int .i64 so.e1) ∧ W.cell? ⟨bs, 3, none⟩ = some (.int .i64 eo.e1) ∧
                  Upd [] w W ∧ Row W r.g 3 (nums .i64 (nats r.pl)) ∧ Row W gX 3 (nums .i64 X) ∧ Row W gY 3 (nums .i64 Y) ∧ Row W gC 3 (nums .i64 C)) := fun W hW => by
                have hS := hS6.upd hW (by simp)
                have h5 : Upd [] w5 W := (hu.out.trans hu6).trans hW
                exact ⟨hS.cell 0 (by simp), hS.cell 1 (by simp), hS.cell 2 (by simp), hS.cell 3 (by simp), HU.out.trans h5, hRr.1.upd h5 (by simp), HX.out.upd h5 (by simp), HY.out.upd h5 (by simp), HC.out.upd h5 (by simp)⟩
              obtain ⟨x0, x1, x2, x3, xu, xp, xX, xY, xC⟩ := HB.out w6 (Upd.refl _ _)
              have T1 := JJ.out.t1 gC cs.length r.g r.c w6 xu xC xp
              have HW6 := Lib.hid hw6
              have HU6 := Lib.hid hu6
              clear hgget hrow hrowr hgA hRr hmem hJ hre hS6
              go_upto_region 14 with fail
              rw [← hbs, ← HW6.out]
              have HBS := Lib.hid hbs
              clear hbs hw6 hu6 z0 z1 z2 z3
              go_upto_region 18 with (first
                | (go_at_call 15; refine T1.mono ?_; rintro e wa ⟨ga, ca, rfl, ra, ua⟩; obtain ⟨a0, a1, a2, a3, au, ap, aX, aY, aC⟩ := HB.out wa ua; have CW := JJ.out.cw ga ca wa au ra)
                | (go_at_call 16; refine CW.mono ?_; rintro e wb ⟨gb, rfl, rb, ub⟩; have uab := ua.trans ub; obtain ⟨b0, b1, b2, b3, bu, bp, bX, bY, bC⟩ := HB.out wb uab))
              have uabd : Upd [] w6 wb.drew := uab.drew
              obtain ⟨e0, e1, e2, e3, eu, ep, eX, eY, eC⟩ := HB.out wb.drew uabd
              have ra2 := (ra.upd ub (by simp)).upd ((Upd.refl [] wb).drew) (by simp)
              have rb2 := rb.upd ((Upd.refl [] wb).drew) (by simp)
              have KK0 := Lib.hid (JJ.out.tk r.g r.c wb.drew eu ep)
              have VV0 := Lib.hid (JJ.out.tv r.g r.c wb.drew eu ep)
              have HRA := Lib.hid ra2
              have HRB := Lib.hid rb2
              have HUD := Lib.hid uabd
              clear x0 x1 x2 x3 xu xp xX xY xC T1 a0 a1 a2 a3 au ap aX aY aC CW b0 b1 b2 b3 bu bp bX bY bC ra rb ra2 rb2 uabd uab ua ub eX eY eC
              go_region_held3 (fun w' => w'.cell? ⟨bs, 0, none⟩ = some (.slice (some ⟨r.g, 0, none⟩) r.pl.length r.c) ∧ w'.cell? ⟨bs, 1, none⟩ = some (.int .i64 lev) ∧ w'.cell? ⟨bs, 2, none⟩ = some (.int .i64 so.e1))
                (first | with_reducible exact ⟨e0, e1, e2⟩ | with_reducible exact ⟨f0, f1, f2⟩ | with_reducible exact ⟨g0, g1, g2⟩ | with_reducible exact ⟨k0, k1, k2⟩)
                (first
                  | (go_at_call 15; with_reducible refine KK0.out.mono ?_; rintro e wc ⟨gk, ck, rfl, rk, uc⟩; obtain ⟨f0, f1, f2, f3, fu, fp, fX, fY, fC⟩ := HB.out wc (HUD.out.trans uc); have VV := JJ.out.tv r.g r.c wc fu fp)
                  | (go_at_call 15; with_reducible refine VV.mono ?_; rintro e wd ⟨gv, cv, rfl, rv, ud⟩; obtain ⟨g0, g1, g2, g3, gu, gp, gX', gY', gC'⟩ := HB.out wd ((HUD.out.trans uc).trans ud); have udd : Upd [] w6 wd := (HUD.out.trans uc).trans ud; have BB := JJ.out.cb gb r.pl.length ga ca gk ck gv cv wd gu ((HRB.out.upd uc (by simp)).upd ud (by simp)) ((HRA.out.upd uc (by simp)).upd ud (by simp)) (rk.upd ud (by simp)) rv)
                  | (go_at_call 15; with_reducible refine VV0.out.mono ?_; rintro e wc ⟨gv, cv, rfl, rv, uc⟩; obtain ⟨f0, f1, f2, f3, fu, fp, fX, fY, fC⟩ := HB.out wc (HUD.out.trans uc); have KK := JJ.out.tk r.g r.c wc fu fp)
                  | (go_at_call 15; with_reducible refine KK.mono ?_; rintro e wd ⟨gk, ck, rfl, rk, ud⟩; obtain ⟨g0, g1, g2, g3, gu, gp, gX', gY', gC'⟩ := HB.out wd ((HUD.out.trans uc).trans ud); have udd : Upd [] w6 wd := (HUD.out.trans uc).trans ud; have BB := JJ.out.cb gb r.pl.length ga ca gk ck gv cv wd gu ((HRB.out.upd uc (by simp)).upd ud (by simp)) ((HRA.out.upd uc (by simp)).upd ud (by simp)) rk (rv.upd ud (by simp)))
                  | (go_at_call 17; with_reducible refine BB.mono ?_; rintro e we ⟨ge, rfl, re, ue⟩; obtain ⟨k0, k1, k2, k3, ku, kp, kX, kY, kC⟩ := HB.out we (udd.trans ue); have use : Upd [] w6 we := udd.trans ue))
              have CN := Lib.hid (JJ.out.cn ge r.pl.length we ku re)
              have HUE := Lib.hid use
              clear e0 e1 e2 e3 eu ep f0 f1 f2 f3 fu fp fX fY fC g0 g1 g2 g3 gu gp gX' gY' gC' udd use ku kp kX kY kC rk rv re ue ud uc BB KK0 VV0 VV
              go_wp2_with (first
                | (go_at_call 18; refine CN.out.mono ?_; rintro e wf ⟨gf, rfl, rf, uf⟩; have vf := HUE.out.trans uf; obtain ⟨l0, l1, l2, l3, lu, lp, lX, lY, lC⟩ := HB.out wf vf; have T2 := JJ.out.t2 gX cs.length r.g r.c wf lu lX lp)
                | (go_at_call 15; with_reducible refine T2.mono ?_; rintro e wg ⟨gg, cg, rfl, rg, ug⟩; have vg := vf.trans ug; obtain ⟨n0, n1, n2, n3, nu, np, nX, nY, nC⟩ := HB.out wg vg; have S2 := JJ.out.s2 gf r.pl.length gg cg wg (rf.upd ug (by simp)) rg)
                | (go_at_call 19; with_reducible refine S2.mono ?_; rintro e wh ⟨rfl, uh⟩; have vh := vg.trans uh; obtain ⟨o0, o1, o2, o3, ou, op, oX, oY, oC⟩ := HB.out wh vh; have CI := JJ.out.ci gf r.pl.length wh ou ((rf.upd ug (by simp)).upd uh (by simp)))
                | (go_at_call 20; refine CI.mono ?_; rintro e wi ⟨gi, rfl, ri, ui⟩; have vi := vh.trans ui; obtain ⟨s0, s1, s2, s3, su, sp, sX, sY, sC⟩ := HB.out wi vi; have T3 := JJ.out.t3 gY cs.length r.g r.c wi su sY sp)
                | (go_at_call 15; with_reducible refine T3.mono ?_; rintro e wj ⟨gj, cj, rfl, rj, uj⟩; have vj := vi.trans uj; have S3 := JJ.out.s3 gi r.pl.length gj cj wj (ri.upd uj (by simp)) rj)
                | (go_at_call 19; with_reducible refine S3.mono ?_; rintro e wk ⟨rfl, uk⟩; have vk := vj.trans uk))
              have HFIN : Hid (Upd [] w5 wk) := (hu.out.trans HU6.out).trans vk
              go_roundg (R.length + 1 - (j + 1))
              case measure => have := hk.out; omega
              case rel => exact ⟨j + 1, by go_num, by omega, HFIN, Nat.le_refl _⟩
            · obtain rfl : j = R.length := by omega
              try go_wp2
              go_ret
              exact ⟨rfl, HU.out.trans hu.out⟩
        · have D1 := Lib.hid (C1.mono (fun e w' h => And.intro (h.1.no1 p) h.2))
          clear C1 p
          go_enter Tryz.func4, Tryz.ntmps4
          go_wp2_with (go_at_call 6; refine D1.out.mono ?_; rintro e w' ⟨rfl, rfl⟩)
          go_ret
          exact ⟨rfl, Upd.refl _ _⟩
      · have q1 : decide ((2147483647 : Int) < (ts.length : Int)) = false := by simp; omega
        have q2 : decide ((2147483647 : Int) < (ks.length : Int)) = false := by simp; omega
        have q3 : decide ((2147483647 : Int) < (vs.length : Int)) = true := by simp; omega
        clear m1 m2 m3
        go_enter Tryz.func4, Tryz.ntmps4
        go_wp2
        go_ret
        exact ⟨rfl, Upd.refl _ _⟩
    · have q1 : decide ((2147483647 : Int) < (ts.length : Int)) = false := by simp; omega
      have q2 : decide ((2147483647 : Int) < (ks.length : Int)) = true := by simp; omega
      clear m1 m2
      go_enter Tryz.func4, Tryz.ntmps4
      go_wp2
      go_ret
      exact ⟨rfl, Upd.refl _ _⟩
  · have q1 : decide ((2147483647 : Int) < (ts.length : Int)) = true := by simp; omega
    clear m1
    go_enter Tryz.func4, Tryz.ntmps4
    go_wp2
    go_ret
    exact ⟨rfl, Upd.refl _ _⟩
end Go.Proofs.YtjahmnenfknjgaaGreatDoor
