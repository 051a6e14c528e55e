/- The package's determineExplicitEmbeddingLevels, by its contract. -/
import Derived.Test.YtjahmnenfknjgaaGreatDoorG8
import Derived.Deep.RegionHeld3
import Derived.Deep.DeepCutAuto
set_option linter.unusedVariables false
set_option linter.unusedSimpArgs false
namespace Go.Proofs.YtjahmnenfknjgaaGreatDoor
open Go.RowKit

set_option maxHeartbeats 16000000 in
set_option maxRecDepth 100000 in
theorem explicit_any (B : XB) (cs : List Cl) (w : World) (hn : B.n = cs.length) (hbase : B.base = 0 ∨ B.base = 1) (hB : ∀ i, i < cs.length → cat cs i = .B → i + 1 = cs.length) (hm : cs.length ≤ 2147483647) (hsb : B.sb = w.heap.size)
    (h : Par w B.b B.i0 B.pt B.pv B.base (.slice (some ⟨B.gt, 0, none⟩) B.n B.ct) (.slice (some ⟨B.gl, 0, none⟩) B.n B.cl) (.slice (some ⟨B.gm, 0, none⟩) B.n B.n) B.s)
    (ht : Row w B.gt 77 (clsU cs)) (hl : Row w B.gl 112 (nums .i8 (List.replicate cs.length B.base))) (hg : Row w B.gm 3 (nums .i64 (mt cs))) :
    Calls Tryz.prog 104 #[.pointer (some ⟨B.b, 0, none⟩)] w fun x w' => x = .returned (.tuple #[]) ∧ ∃ st, XF B w w' (mt cs) (ptys cs B.base) (plvs cs B.base) st := by
  have hX0 : XF B w (w.alloc (.cells Tryz.zeroCells164 164)) (mt cs) cs (List.replicate cs.length B.base) [] :=
    ⟨Row.alloc h _, ht.alloc _, hl.alloc _, hg.alloc _, hsb ▸ SK.new w, (Upd.refl _ _).alloc _, by omega, hn.symm, by simp [hn], by rw [hsb]; exact Row.lt h, by rw [hsb]; exact ht.lt, by rw [hsb]; exact hl.lt, by rw [hsb]; exact hg.lt⟩
  have C3 := hX0.par.cells.c3
  rw [show List.replicate cs.length B.base = plvK cs B.base 0 from (plvK_zero _ _).symm] at hX0
  obtain ⟨ts, hts⟩ : ∃ ts, ts = ptyK cs B.base 0 := ⟨_, rfl⟩
  have hX1 : XF B w (w.alloc (.cells Tryz.zeroCells164 164)) (mt cs) ts (plvK cs B.base 0) [] := by rw [hts, ptyK_zero]; exact hX0
  have HT := Lib.hid hts
  have HB := Lib.hid hB
  have HN := Lib.hid hn
  have HSB := Lib.hid hsb
  have SK0 := Lib.hid hX1.sk
  rw [hsb] at SK0
  have hnm : B.n ≤ 2147483647 := by omega
  clear hX0 hts hB hn h ht hl hg hsb
  go_enter Tryz.func104, Tryz.ntmps104
  go_wp2_with (go_at_call 124; refine (stkPush_sk SK0.out (by simp) B.base none false).mono ?_; rintro x w1 ⟨rfl, hs1, hu1⟩; rw [← HSB.out] at hs1 hu1; have hX := hX1.stk hs1 hu1; obtain ⟨c0, c1, c2, c3, c4, c5, c6, c7⟩ := hX.par.cells; clear hX1 C3 hs1)
  have HU : Hid (w.heap.size = B.sb) := HSB.out.symm
  rw [HU.out]
  have hst : (⟨[⟨B.base, none, false⟩], 0, 0, 0⟩ : XS) = xs cs B.base 0 := rfl
  rw [HT.out] at hX
  clear SK0 hu1 HT
  go_loopg [3, 4, 5, 21] (B.n + 1) (fun k o e v i wr => ∃ (j : Nat) (s : XS), o = .int .i64 s.oi ∧ e = .int .i64 s.oe ∧ v = .int .i64 s.vi ∧ i = .int .i64 j ∧ j ≤ B.n ∧ XF B w wr (mt cs) (ptyK cs B.base j) (plvK cs B.base j) s.st ∧ Hid (j < B.n → s = xs cs B.base j) ∧ Hid (B.n + 1 - j ≤ k))
  case atStart => exact ⟨0, ⟨[⟨B.base, none, false⟩], 0, 0, 0⟩, rfl, rfl, rfl, rfl, by omega, hX, fun _ => hst, Nat.le_refl _⟩
  case round =>
    obtain ⟨j, s, rfl, rfl, rfl, rfl, hj, hX1, HS, hk⟩ := hrel
    clear c0 c1 c2 c3 c4 c5 c6 c7 hX hst
    by_cases hlt : j < B.n
    · have hs := HS.out hlt
      have hlc : j < cs.length := by rw [← HN.out]; exact hlt
      have hok : XOk B.base s := by rw [hs]; exact xs_ok cs hbase j
      have hcn := xs_cnt cs B.base j
      rw [← hs] at hcn
      obtain ⟨hc1, hc2, hc3⟩ := hcn
      obtain ⟨e, r, hst, htop, hrl, hlv⟩ := hok.top
      have hlv0 : 0 ≤ e.lv := by omega
      have hX := hX1
      rw [hst] at hX
      obtain ⟨c0, c1, c2, c3, c4, c5, c6, c7⟩ := hX.par.cells
      have hc := hX.rt.cls j (by rw [ptyK_length]; exact hlc)
      rw [cat_ptyK hlc, if_neg (Nat.lt_irrefl j)] at hc
      have hlcell := hX.rl.num j (by rw [plvK_length]; exact hlc)
      have hlf := hX.rl.free j
      have htf := hX.rt.free j
      obtain ⟨ne1, ne2, ne3, ne4, ne5⟩ := hX.ne
      have ne6 : B.gl ≠ B.gt := fun e => ne3 e.symm
      have hox : e.ov = none ∨ e.ov = some .L ∨ e.ov = some .R := hok.ov e (by rw [hst]; simp)
      rcases class_cases (cat cs j) with hcl | hcl | hcl | hcl | hcl | hcl
      · as_aux_lemma =>
          -- dull
          have d1 := plv_dull (base := B.base) hcl
          have d2 := pty_dull (base := B.base) hcl
          have d3 := xs_dull (base := B.base) hcl
          rw [← hs, htop] at d1 d2
          rw [← hs] at d3
          obtain ⟨t1, t2, t3, t4, t5, t6, t7, t8, t9, t10⟩ := dull_tests hcl
          have HL := Lib.hid (plvK_set hlc d1)
          have HS2 : Hid (j + 1 < B.n → s = xs cs B.base (j + 1)) := fun _ => d3.symm
          have HST := Lib.hid hst
          by_cases hov : e.ov = none
          · have o1 : (e.o.e2 != 10) = false := by rw [Ent.o, hov]; rfl
            have HTy : Hid (ptyK cs B.base j = ptyK cs B.base (j + 1)) := ptyK_same hlc (by rw [d2, hov]; rfl)
            clear hov d1 d2 d3 hs hok hst htop hcl hox hX1
            go_wp2_with (first | fail)
            go_region_held3 (fun w' => w'.cell? ⟨B.b, 5, none⟩ = some (.slice (some ⟨B.gl, 0, none⟩) B.n B.cl))
              (first | exact c5 | exact hX.drew.c5 | exact ((hX.drewN _).setL j _ hlt).c5)
              (first | (go_at_call 125; refine (lastLev_sk hX.drew.sk).mono ?_; rintro x w' ⟨rfl, q, rfl⟩))
            go_wp2_with (first | (go_at_call 126; refine (lastOvr_sk ((hX.drewN _).setL j e.lv hlt).sk).mono ?_; rintro x w' ⟨rfl, q2, rfl⟩))
            go_roundg (B.n + 1 - (j + 1))
            case measure => have := hk.out; omega
            case rel => exact ⟨j + 1, s, rfl, rfl, rfl, by go_num, by omega, by rw [HST.out, ← HTy.out, ← HL.out]; exact ((hX.drewN _).setL j e.lv hlt).drewN _, HS2, Nat.le_refl _⟩
          · have hov2 : e.ov = some e.o := by
              rcases hox with h | h | h
              · exact absurd h hov
              · rw [Ent.o, h]; rfl
              · rw [Ent.o, h]; rfl
            have o1 : (e.o.e2 != 10) = true := by
              rcases hox with h | h | h
              · exact absurd h hov
              · rw [Ent.o, h]; rfl
              · rw [Ent.o, h]; rfl
            have HTy : Hid ((ptyK cs B.base j).set j e.o = ptyK cs B.base (j + 1)) := ptyK_set hlc (by rw [d2, hov2]; rfl)
            clear hov hov2 d1 d2 d3 hs hok hst htop hcl hox hX1
            go_wp2_with (first | fail)
            go_region_held3 (fun w' => w'.cell? ⟨B.b, 5, none⟩ = some (.slice (some ⟨B.gl, 0, none⟩) B.n B.cl))
              (first | exact c5 | exact hX.drew.c5 | exact ((hX.drewN _).setL j _ hlt).c5)
              (first | (go_at_call 125; refine (lastLev_sk hX.drew.sk).mono ?_; rintro x w' ⟨rfl, q, rfl⟩))
            have a4 := ((hX.drewN (1 + q)).setL j e.lv hlt).c4
            have at_ := ((hX.drewN (1 + q)).setL j e.lv hlt).rt.cls j (by rw [ptyK_length]; exact hlc)
            have af := ((hX.drewN (1 + q)).setL j e.lv hlt).rt.free j
            go_wp2_with (first | (go_at_call 126; refine (lastOvr_sk ((hX.drewN _).setL j e.lv hlt).sk).mono ?_; rintro x w' ⟨rfl, q2, rfl⟩))
            go_region_held3 (fun w' => w'.cell? ⟨B.b, 4, none⟩ = some (.slice (some ⟨B.gt, 0, none⟩) B.n B.ct))
              (first | exact a4 | exact (((hX.drewN _).setL j e.lv hlt).drewN _).c4 | exact ((((hX.drewN _).setL j e.lv hlt).drewN _).setT j e.o hlt).c4)
              (first | (go_at_call 126; refine (lastOvr_sk (((hX.drewN _).setL j e.lv hlt).drewN _).drew.sk).mono ?_; rintro x w' ⟨rfl, q3, rfl⟩) | (go_at_call 126; refine (lastOvr_sk (((hX.drewN _).setL j e.lv hlt).drewN _).sk).mono ?_; rintro x w' ⟨rfl, q3, rfl⟩))
            go_wp2_with (first | fail)
            go_roundg (B.n + 1 - (j + 1))
            case measure => have := hk.out; omega
            case rel => exact ⟨j + 1, s, rfl, rfl, rfl, by go_num, by omega, by rw [HST.out, ← HTy.out, ← HL.out]; exact (((hX.drewN _).setL j e.lv hlt).drewN _).setT j e.o hlt, HS2, Nat.le_refl _⟩
      · -- isolates
        have hcx : cat cs j = .RLI ∨ cat cs j = .LRI ∨ cat cs j = .FSI := by revert hcl; cases cat cs j <;> simp [Cl.isInit]
        rcases hcx with hcc | hcc | hcc
        · as_aux_lemma =>
            have hodd : initOdd cs j = 1 := by rw [initOdd, hcc]
            rw [hcc] at hc
            replace hc : wr.cell? ⟨B.gt, j, none⟩ = some (.int .u64 22) := hc
            have d1 := plv_init (base := B.base) hcl
            have d2 := pty_init (base := B.base) hcl
            have d3 := xs_init (base := B.base) hcl
            rw [← hs, htop] at d1 d2
            rw [← hs, hodd] at d3
            obtain ⟨nl, hnl⟩ : ∃ nl, nl = nextLv e.lv 1 := ⟨_, rfl⟩
            have hbits : bits .or .i8 (e.lv + 1) 1 = nl := by rw [hnl]; exact next_odd hlv0 hlv
            have hnl2 : e.lv < nl ∧ nl ≤ e.lv + 2 := by rw [hnl]; exact nextLv_gt _ _ (by omega)
            have HL := Lib.hid (plvK_set hlc d1)
            have HST := Lib.hid hst
            have HNL := Lib.hid hnl
            have HTP := Lib.hid htop
            have D2 := Lib.hid d2
            have D3 := Lib.hid d3
            have HOX := Lib.hid hox
            clear hX1 hcc hs hok hst htop hodd d1 d2 d3 hnl hox hcl
            go_upto_if 71 with (first
              | (go_at_call 106; refine (in_upd (c := .RLI) (l := [.RLI, .LRI, .FSI]) true (by simp) (by rfl) rfl rfl (by decide) _).mono ?_; rintro x w1 ⟨rfl, hu1⟩; have hX2 := hX.upd0 hu1)
              | (go_at_call 106; refine (in_upd (c := .RLI) (l := [.RLE, .RLO, .RLI]) true (by simp) (by rfl) rfl rfl (by decide) _).mono ?_; rintro x w2 ⟨rfl, hu2⟩; have hX3 := hX2.upd0 hu2))
            have a5 := hX3.c5
            have al := hX3.rl.num j (by rw [plvK_length]; exact hlc)
            have alf := hX3.rl.free j
            go_cut [] (fun wx => XF B w wx (mt cs) (ptyK cs B.base (j + 1)) (plvK cs B.base (j + 1)) (e :: r))
            case first =>
              go_wp2_with (first | fail)
              go_region_held3 (fun w' => w'.cell? ⟨B.b, 5, none⟩ = some (.slice (some ⟨B.gl, 0, none⟩) B.n B.cl))
                (first | exact a5 | exact hX3.drew.c5 | exact ((hX3.drewN _).setL j _ hlt).c5)
                (first | (go_at_call 125; refine (lastLev_sk hX3.drew.sk).mono ?_; rintro x w' ⟨rfl, q, rfl⟩))
              have a4 := ((hX3.drewN (1 + q)).setL j e.lv hlt).c4
              have at_ := ((hX3.drewN (1 + q)).setL j e.lv hlt).rt.cls j (by rw [ptyK_length]; exact hlc)
              have af := ((hX3.drewN (1 + q)).setL j e.lv hlt).rt.free j
              by_cases hov : e.ov = none
              · have o1 : (e.o.e2 != 10) = false := by rw [Ent.o, hov]; rfl
                have HTy : Hid (ptyK cs B.base j = ptyK cs B.base (j + 1)) := ptyK_same hlc (by rw [D2.out, hov]; rfl)
                clear hov
                go_wp2_with (first | (go_at_call 126; refine (lastOvr_sk ((hX3.drewN _).setL j e.lv hlt).sk).mono ?_; rintro x w' ⟨rfl, q2, rfl⟩))
                go_meet
                case rel => rw [← HTy.out, ← HL.out]; exact ((hX3.drewN _).setL j e.lv hlt).drewN _
              · have hov2 : e.ov = some e.o := by
                  rcases HOX.out with h | h | h
                  · exact absurd h hov
                  · rw [Ent.o, h]; rfl
                  · rw [Ent.o, h]; rfl
                have o1 : (e.o.e2 != 10) = true := by
                  rcases HOX.out with h | h | h
                  · exact absurd h hov
                  · rw [Ent.o, h]; rfl
                  · rw [Ent.o, h]; rfl
                have HTy : Hid ((ptyK cs B.base j).set j e.o = ptyK cs B.base (j + 1)) := ptyK_set hlc (by rw [D2.out, hov2]; rfl)
                clear hov hov2
                go_wp2_with (first | (go_at_call 126; refine (lastOvr_sk ((hX3.drewN _).setL j e.lv hlt).sk).mono ?_; rintro x w' ⟨rfl, q2, rfl⟩))
                go_region_held3 (fun w' => w'.cell? ⟨B.b, 4, none⟩ = some (.slice (some ⟨B.gt, 0, none⟩) B.n B.ct))
                  (first | exact a4 | exact (((hX3.drewN _).setL j e.lv hlt).drewN _).c4 | exact ((((hX3.drewN _).setL j e.lv hlt).drewN _).setT j e.o hlt).c4)
                  (first | (go_at_call 126; refine (lastOvr_sk (((hX3.drewN _).setL j e.lv hlt).drewN _).drew.sk).mono ?_; rintro x w' ⟨rfl, q3, rfl⟩) | (go_at_call 126; refine (lastOvr_sk (((hX3.drewN _).setL j e.lv hlt).drewN _).sk).mono ?_; rintro x w' ⟨rfl, q3, rfl⟩))
                go_wp2_with (first | fail)
                go_meet
                case rel => rw [← HTy.out, ← HL.out]; exact (((hX3.drewN _).setL j e.lv hlt).drewN _).setT j e.o hlt
            case rest =>
              clear c0 c1 c2 c3 c4 c5 c6 c7 hX hX2 hX3 a5 al alf hc htf hlcell hlf
              rename_i wc hcut
              go_upto_region 29 with (first | (go_at_call 125; refine (lastLev_sk hcut.sk).mono ?_; rintro x w' ⟨rfl, q5, rfl⟩))
              have hY := hcut.drewN q5
              by_cases hn1 : nl ≤ 125
              · by_cases hn2 : s.oi = 0
                · have b2 : ((s.oi : Int) == 0) = true := by rw [hn2]; rfl
                  by_cases hn3 : s.oe = 0
                  · have b3 : ((s.oe : Int) == 0) = true := by rw [hn3]; rfl
                    have hs2 : s.begin_ 1 = ⟨⟨nl, none, true⟩ :: s.st, s.oi, s.oe, s.vi + 1⟩ := by unfold XS.begin_; rw [HTP.out, ← HNL.out, if_pos ⟨hn1, hn2, hn3⟩]
                    have HS2 : Hid (j + 1 < B.n → (⟨⟨nl, none, true⟩ :: s.st, s.oi, s.oe, s.vi + 1⟩ : XS) = xs cs B.base (j + 1)) := fun _ => by rw [D3.out, hs2]
                    clear hs2
                    go_wp2_with (first | (go_at_call 124; refine (stkPush_sk hY.sk (by simp; omega) nl none true).mono ?_; rintro x w6 ⟨rfl, hs6, hu6⟩; have hZ := hY.stk hs6 hu6))
                    go_roundg (B.n + 1 - (j + 1))
                    case measure => have := hk.out; omega
                    case rel => exact ⟨j + 1, ⟨⟨nl, none, true⟩ :: s.st, s.oi, s.oe, s.vi + 1⟩, (by first | rfl | (simp only [hn2, hn3]; rfl) | (simp only [hn3]; rfl) | (simp only [hn2]; rfl)), (by first | rfl | (simp only [hn2, hn3]; rfl) | (simp only [hn3]; rfl) | (simp only [hn2]; rfl)), by go_num, by go_num, by omega, by rw [HST.out]; exact hZ, HS2, Nat.le_refl _⟩

                  · have b3 : ((s.oe : Int) == 0) = false := by simpa using hn3
                    have hs2 : s.begin_ 1 = ⟨s.st, s.oi + 1, s.oe, s.vi⟩ := by unfold XS.begin_; rw [HTP.out, ← HNL.out, if_neg (fun h => hn3 h.2.2)]
                    have HS2 : Hid (j + 1 < B.n → (⟨s.st, s.oi + 1, s.oe, s.vi⟩ : XS) = xs cs B.base (j + 1)) := fun _ => by rw [D3.out, hs2]
                    clear hs2
                    go_wp2_with (first | fail)
                    go_roundg (B.n + 1 - (j + 1))
                    case measure => have := hk.out; omega
                    case rel => exact ⟨j + 1, ⟨s.st, s.oi + 1, s.oe, s.vi⟩, by go_num, (by first | rfl | (simp only [hn2, hn3]; rfl) | (simp only [hn3]; rfl) | (simp only [hn2]; rfl)), rfl, by go_num, by omega, by rw [HST.out]; exact hY, HS2, Nat.le_refl _⟩

                · have b2 : ((s.oi : Int) == 0) = false := by simpa using hn2
                  have hs2 : s.begin_ 1 = ⟨s.st, s.oi + 1, s.oe, s.vi⟩ := by unfold XS.begin_; rw [HTP.out, ← HNL.out, if_neg (fun h => hn2 h.2.1)]
                  have HS2 : Hid (j + 1 < B.n → (⟨s.st, s.oi + 1, s.oe, s.vi⟩ : XS) = xs cs B.base (j + 1)) := fun _ => by rw [D3.out, hs2]
                  clear hs2
                  go_wp2_with (first | fail)
                  go_roundg (B.n + 1 - (j + 1))
                  case measure => have := hk.out; omega
                  case rel => exact ⟨j + 1, ⟨s.st, s.oi + 1, s.oe, s.vi⟩, by go_num, (by first | rfl | (simp only [hn2, hn3]; rfl) | (simp only [hn3]; rfl) | (simp only [hn2]; rfl)), rfl, by go_num, by omega, by rw [HST.out]; exact hY, HS2, Nat.le_refl _⟩

              · have hs2 : s.begin_ 1 = ⟨s.st, s.oi + 1, s.oe, s.vi⟩ := by unfold XS.begin_; rw [HTP.out, ← HNL.out, if_neg (fun h => hn1 h.1)]
                have HS2 : Hid (j + 1 < B.n → (⟨s.st, s.oi + 1, s.oe, s.vi⟩ : XS) = xs cs B.base (j + 1)) := fun _ => by rw [D3.out, hs2]
                clear hs2
                go_wp2_with (first | fail)
                go_roundg (B.n + 1 - (j + 1))
                case measure => have := hk.out; omega
                case rel => exact ⟨j + 1, ⟨s.st, s.oi + 1, s.oe, s.vi⟩, by go_num, (by first | rfl | (simp only [hn2, hn3]; rfl) | (simp only [hn3]; rfl) | (simp only [hn2]; rfl)), rfl, by go_num, by omega, by rw [HST.out]; exact hY, HS2, Nat.le_refl _⟩
        · as_aux_lemma =>
            have hodd : initOdd cs j = 0 := by rw [initOdd, hcc]
            rw [hcc] at hc
            replace hc : wr.cell? ⟨B.gt, j, none⟩ = some (.int .u64 21) := hc
            have d1 := plv_init (base := B.base) hcl
            have d2 := pty_init (base := B.base) hcl
            have d3 := xs_init (base := B.base) hcl
            rw [← hs, htop] at d1 d2
            rw [← hs, hodd] at d3
            obtain ⟨nl, hnl⟩ : ∃ nl, nl = nextLv e.lv 0 := ⟨_, rfl⟩
            have hbits : bits .andNot .i8 (e.lv + 2) 1 = nl := by rw [hnl]; exact next_even hlv0 hlv
            have hnl2 : e.lv < nl ∧ nl ≤ e.lv + 2 := by rw [hnl]; exact nextLv_gt _ _ (by omega)
            have HL := Lib.hid (plvK_set hlc d1)
            have HST := Lib.hid hst
            have HNL := Lib.hid hnl
            have HTP := Lib.hid htop
            have D2 := Lib.hid d2
            have D3 := Lib.hid d3
            have HOX := Lib.hid hox
            clear hX1 hcc hs hok hst htop hodd d1 d2 d3 hnl hox hcl
            go_upto_if 71 with (first
              | (go_at_call 106; refine (in_upd (c := .LRI) (l := [.RLI, .LRI, .FSI]) true (by simp) (by rfl) rfl rfl (by decide) _).mono ?_; rintro x w1 ⟨rfl, hu1⟩; have hX2 := hX.upd0 hu1)
              | (go_at_call 106; refine (in_upd (c := .LRI) (l := [.RLE, .RLO, .RLI]) false (by simp) (by rfl) rfl rfl (by decide) _).mono ?_; rintro x w2 ⟨rfl, hu2⟩; have hX3 := hX2.upd0 hu2))
            have a5 := hX3.c5
            have al := hX3.rl.num j (by rw [plvK_length]; exact hlc)
            have alf := hX3.rl.free j
            go_cut [] (fun wx => XF B w wx (mt cs) (ptyK cs B.base (j + 1)) (plvK cs B.base (j + 1)) (e :: r))
            case first =>
              go_wp2_with (first | fail)
              go_region_held3 (fun w' => w'.cell? ⟨B.b, 5, none⟩ = some (.slice (some ⟨B.gl, 0, none⟩) B.n B.cl))
                (first | exact a5 | exact hX3.drew.c5 | exact ((hX3.drewN _).setL j _ hlt).c5)
                (first | (go_at_call 125; refine (lastLev_sk hX3.drew.sk).mono ?_; rintro x w' ⟨rfl, q, rfl⟩))
              have a4 := ((hX3.drewN (1 + q)).setL j e.lv hlt).c4
              have at_ := ((hX3.drewN (1 + q)).setL j e.lv hlt).rt.cls j (by rw [ptyK_length]; exact hlc)
              have af := ((hX3.drewN (1 + q)).setL j e.lv hlt).rt.free j
              by_cases hov : e.ov = none
              · have o1 : (e.o.e2 != 10) = false := by rw [Ent.o, hov]; rfl
                have HTy : Hid (ptyK cs B.base j = ptyK cs B.base (j + 1)) := ptyK_same hlc (by rw [D2.out, hov]; rfl)
                clear hov
                go_wp2_with (first | (go_at_call 126; refine (lastOvr_sk ((hX3.drewN _).setL j e.lv hlt).sk).mono ?_; rintro x w' ⟨rfl, q2, rfl⟩))
                go_meet
                case rel => rw [← HTy.out, ← HL.out]; exact ((hX3.drewN _).setL j e.lv hlt).drewN _
              · have hov2 : e.ov = some e.o := by
                  rcases HOX.out with h | h | h
                  · exact absurd h hov
                  · rw [Ent.o, h]; rfl
                  · rw [Ent.o, h]; rfl
                have o1 : (e.o.e2 != 10) = true := by
                  rcases HOX.out with h | h | h
                  · exact absurd h hov
                  · rw [Ent.o, h]; rfl
                  · rw [Ent.o, h]; rfl
                have HTy : Hid ((ptyK cs B.base j).set j e.o = ptyK cs B.base (j + 1)) := ptyK_set hlc (by rw [D2.out, hov2]; rfl)
                clear hov hov2
                go_wp2_with (first | (go_at_call 126; refine (lastOvr_sk ((hX3.drewN _).setL j e.lv hlt).sk).mono ?_; rintro x w' ⟨rfl, q2, rfl⟩))
                go_region_held3 (fun w' => w'.cell? ⟨B.b, 4, none⟩ = some (.slice (some ⟨B.gt, 0, none⟩) B.n B.ct))
                  (first | exact a4 | exact (((hX3.drewN _).setL j e.lv hlt).drewN _).c4 | exact ((((hX3.drewN _).setL j e.lv hlt).drewN _).setT j e.o hlt).c4)
                  (first | (go_at_call 126; refine (lastOvr_sk (((hX3.drewN _).setL j e.lv hlt).drewN _).drew.sk).mono ?_; rintro x w' ⟨rfl, q3, rfl⟩) | (go_at_call 126; refine (lastOvr_sk (((hX3.drewN _).setL j e.lv hlt).drewN _).sk).mono ?_; rintro x w' ⟨rfl, q3, rfl⟩))
                go_wp2_with (first | fail)
                go_meet
                case rel => rw [← HTy.out, ← HL.out]; exact (((hX3.drewN _).setL j e.lv hlt).drewN _).setT j e.o hlt
            case rest =>
              clear c0 c1 c2 c3 c4 c5 c6 c7 hX hX2 hX3 a5 al alf hc htf hlcell hlf
              rename_i wc hcut
              go_upto_region 29 with (first | (go_at_call 125; refine (lastLev_sk hcut.sk).mono ?_; rintro x w' ⟨rfl, q5, rfl⟩))
              have hY := hcut.drewN q5
              by_cases hn1 : nl ≤ 125
              · by_cases hn2 : s.oi = 0
                · have b2 : ((s.oi : Int) == 0) = true := by rw [hn2]; rfl
                  by_cases hn3 : s.oe = 0
                  · have b3 : ((s.oe : Int) == 0) = true := by rw [hn3]; rfl
                    have hs2 : s.begin_ 0 = ⟨⟨nl, none, true⟩ :: s.st, s.oi, s.oe, s.vi + 1⟩ := by unfold XS.begin_; rw [HTP.out, ← HNL.out, if_pos ⟨hn1, hn2, hn3⟩]
                    have HS2 : Hid (j + 1 < B.n → (⟨⟨nl, none, true⟩ :: s.st, s.oi, s.oe, s.vi + 1⟩ : XS) = xs cs B.base (j + 1)) := fun _ => by rw [D3.out, hs2]
                    clear hs2
                    go_wp2_with (first | (go_at_call 124; refine (stkPush_sk hY.sk (by simp; omega) nl none true).mono ?_; rintro x w6 ⟨rfl, hs6, hu6⟩; have hZ := hY.stk hs6 hu6))
                    go_roundg (B.n + 1 - (j + 1))
                    case measure => have := hk.out; omega
                    case rel => exact ⟨j + 1, ⟨⟨nl, none, true⟩ :: s.st, s.oi, s.oe, s.vi + 1⟩, (by first | rfl | (simp only [hn2, hn3]; rfl) | (simp only [hn3]; rfl) | (simp only [hn2]; rfl)), (by first | rfl | (simp only [hn2, hn3]; rfl) | (simp only [hn3]; rfl) | (simp only [hn2]; rfl)), by go_num, by go_num, by omega, by rw [HST.out]; exact hZ, HS2, Nat.le_refl _⟩

                  · have b3 : ((s.oe : Int) == 0) = false := by simpa using hn3
                    have hs2 : s.begin_ 0 = ⟨s.st, s.oi + 1, s.oe, s.vi⟩ := by unfold XS.begin_; rw [HTP.out, ← HNL.out, if_neg (fun h => hn3 h.2.2)]
                    have HS2 : Hid (j + 1 < B.n → (⟨s.st, s.oi + 1, s.oe, s.vi⟩ : XS) = xs cs B.base (j + 1)) := fun _ => by rw [D3.out, hs2]
                    clear hs2
                    go_wp2_with (first | fail)
                    go_roundg (B.n + 1 - (j + 1))
                    case measure => have := hk.out; omega
                    case rel => exact ⟨j + 1, ⟨s.st, s.oi + 1, s.oe, s.vi⟩, by go_num, (by first | rfl | (simp only [hn2, hn3]; rfl) | (simp only [hn3]; rfl) | (simp only [hn2]; rfl)), rfl, by go_num, by omega, by rw [HST.out]; exact hY, HS2, Nat.le_refl _⟩

                · have b2 : ((s.oi : Int) == 0) = false := by simpa using hn2
                  have hs2 : s.begin_ 0 = ⟨s.st, s.oi + 1, s.oe, s.vi⟩ := by unfold XS.begin_; rw [HTP.out, ← HNL.out, if_neg (fun h => hn2 h.2.1)]
                  have HS2 : Hid (j + 1 < B.n → (⟨s.st, s.oi + 1, s.oe, s.vi⟩ : XS) = xs cs B.base (j + 1)) := fun _ => by rw [D3.out, hs2]
                  clear hs2
                  go_wp2_with (first | fail)
                  go_roundg (B.n + 1 - (j + 1))
                  case measure => have := hk.out; omega
                  case rel => exact ⟨j + 1, ⟨s.st, s.oi + 1, s.oe, s.vi⟩, by go_num, (by first | rfl | (simp only [hn2, hn3]; rfl) | (simp only [hn3]; rfl) | (simp only [hn2]; rfl)), rfl, by go_num, by omega, by rw [HST.out]; exact hY, HS2, Nat.le_refl _⟩

              · have hs2 : s.begin_ 0 = ⟨s.st, s.oi + 1, s.oe, s.vi⟩ := by unfold XS.begin_; rw [HTP.out, ← HNL.out, if_neg (fun h => hn1 h.1)]
                have HS2 : Hid (j + 1 < B.n → (⟨s.st, s.oi + 1, s.oe, s.vi⟩ : XS) = xs cs B.base (j + 1)) := fun _ => by rw [D3.out, hs2]
                clear hs2
                go_wp2_with (first | fail)
                go_roundg (B.n + 1 - (j + 1))
                case measure => have := hk.out; omega
                case rel => exact ⟨j + 1, ⟨s.st, s.oi + 1, s.oe, s.vi⟩, by go_num, (by first | rfl | (simp only [hn2, hn3]; rfl) | (simp only [hn3]; rfl) | (simp only [hn2]; rfl)), rfl, by go_num, by omega, by rw [HST.out]; exact hY, HS2, Nat.le_refl _⟩
        · rcases fsLev_range cs (j + 1) (mOf cs j) with hfs | hfs
          · as_aux_lemma =>
              have hodd : initOdd cs j = 0 := by rw [initOdd, hcc]; exact hfs
              rw [hcc] at hc
              replace hc : wr.cell? ⟨B.gt, j, none⟩ = some (.int .u64 23) := hc
              have d1 := plv_init (base := B.base) hcl
              have d2 := pty_init (base := B.base) hcl
              have d3 := xs_init (base := B.base) hcl
              rw [← hs, htop] at d1 d2
              rw [← hs, hodd] at d3
              have hc6 := hX.rm.num j (by rw [mt_length]; exact hlc)
              rw [nth_mt hlc, mAt_init hcl] at hc6
              have HNE : Hid (∀ q, j + 1 ≤ q → q < mOf cs j → (cat cs q).isInit = true → mOf cs q ≤ mOf cs j) := fun q h1 h2 h3 => mOf_nest hlc (by omega) h2 h3
              have HSA : Hid (∀ q, j + 1 ≤ q → q < mOf cs j → cat (ptyK cs B.base j) q = cat cs q) := fun q h1 h2 => by rw [cat_ptyK (by have := mOf_le cs j; omega), if_neg (by omega)]
              have hml := mOf_le cs j
              have hb1 : (fsLev cs (j + 1) (mOf cs j) == 1) = false := by rw [hfs]; rfl
              obtain ⟨nl, hnl⟩ : ∃ nl, nl = nextLv e.lv 0 := ⟨_, rfl⟩
              have hbits : bits .andNot .i8 (e.lv + 2) 1 = nl := by rw [hnl]; exact next_even hlv0 hlv
              have hnl2 : e.lv < nl ∧ nl ≤ e.lv + 2 := by rw [hnl]; exact nextLv_gt _ _ (by omega)
              have HMA := Lib.hid (mAt_init hcl)
              have HL := Lib.hid (plvK_set hlc d1)
              have HST := Lib.hid hst
              have HNL := Lib.hid hnl
              have HTP := Lib.hid htop
              have D2 := Lib.hid d2
              have D3 := Lib.hid d3
              have HOX := Lib.hid hox
              clear hX1 hcc hs hok hst htop hodd d1 d2 d3 hnl hox hcl hfs
              go_upto_if 71 with (first
                | (go_at_call 106; refine (in_upd (c := .FSI) (l := [.RLI, .LRI, .FSI]) true (by simp) (by rfl) rfl rfl (by decide) _).mono ?_; rintro x w1 ⟨rfl, hu1⟩; have hX2 := hX.upd0 hu1)
                | (go_at_call 106; refine (in_upd (c := .FSI) (l := [.RLE, .RLO, .RLI]) false (by simp) (by rfl) rfl rfl (by decide) _).mono ?_; rintro x w2 ⟨rfl, hu2⟩; have hX3 := hX2.upd0 hu2; have e6 := hX3.par.cells.c6; have e7 := hX3.rm.num j (by rw [mt_length]; exact hlc); rw [nth_mt hlc, HMA.out] at e7)
                | (go_at_call 121; refine (embLev_any B.b B.gt B.ct B.gm 0 (mOf cs j) (j + 1) (ptyK cs B.base j) cs _ (by rw [← HN.out]; exact hX3.par.cells.c4) (by rw [← HN.out]; exact hX3.par.cells.c6) hX3.rt hX3.rm (ptyK_length _ _ _) hml (by omega) hm HSA.out HNE.out).mono ?_; rintro x w3 ⟨rfl, hu3⟩; have hX4 := hX3.upd0 hu3))
              have a5 := hX4.c5
              have al := hX4.rl.num j (by rw [plvK_length]; exact hlc)
              have alf := hX4.rl.free j
              go_cut [] (fun wx => XF B w wx (mt cs) (ptyK cs B.base (j + 1)) (plvK cs B.base (j + 1)) (e :: r))
              case first =>
                go_wp2_with (first | fail)
                go_region_held3 (fun w' => w'.cell? ⟨B.b, 5, none⟩ = some (.slice (some ⟨B.gl, 0, none⟩) B.n B.cl))
                  (first | exact a5 | exact hX4.drew.c5 | exact ((hX4.drewN _).setL j _ hlt).c5)
                  (first | (go_at_call 125; refine (lastLev_sk hX4.drew.sk).mono ?_; rintro x w' ⟨rfl, q, rfl⟩))
                have a4 := ((hX4.drewN (1 + q)).setL j e.lv hlt).c4
                have at_ := ((hX4.drewN (1 + q)).setL j e.lv hlt).rt.cls j (by rw [ptyK_length]; exact hlc)
                have af := ((hX4.drewN (1 + q)).setL j e.lv hlt).rt.free j
                by_cases hov : e.ov = none
                · have o1 : (e.o.e2 != 10) = false := by rw [Ent.o, hov]; rfl
                  have HTy : Hid (ptyK cs B.base j = ptyK cs B.base (j + 1)) := ptyK_same hlc (by rw [D2.out, hov]; rfl)
                  clear hov
                  go_wp2_with (first | (go_at_call 126; refine (lastOvr_sk ((hX4.drewN _).setL j e.lv hlt).sk).mono ?_; rintro x w' ⟨rfl, q2, rfl⟩))
                  go_meet
                  case rel => rw [← HTy.out, ← HL.out]; exact ((hX4.drewN _).setL j e.lv hlt).drewN _
                · have hov2 : e.ov = some e.o := by
                    rcases HOX.out with h | h | h
                    · exact absurd h hov
                    · rw [Ent.o, h]; rfl
                    · rw [Ent.o, h]; rfl
                  have o1 : (e.o.e2 != 10) = true := by
                    rcases HOX.out with h | h | h
                    · exact absurd h hov
                    · rw [Ent.o, h]; rfl
                    · rw [Ent.o, h]; rfl
                  have HTy : Hid ((ptyK cs B.base j).set j e.o = ptyK cs B.base (j + 1)) := ptyK_set hlc (by rw [D2.out, hov2]; rfl)
                  clear hov hov2
                  go_wp2_with (first | (go_at_call 126; refine (lastOvr_sk ((hX4.drewN _).setL j e.lv hlt).sk).mono ?_; rintro x w' ⟨rfl, q2, rfl⟩))
                  go_region_held3 (fun w' => w'.cell? ⟨B.b, 4, none⟩ = some (.slice (some ⟨B.gt, 0, none⟩) B.n B.ct))
                    (first | exact a4 | exact (((hX4.drewN _).setL j e.lv hlt).drewN _).c4 | exact ((((hX4.drewN _).setL j e.lv hlt).drewN _).setT j e.o hlt).c4)
                    (first | (go_at_call 126; refine (lastOvr_sk (((hX4.drewN _).setL j e.lv hlt).drewN _).drew.sk).mono ?_; rintro x w' ⟨rfl, q3, rfl⟩) | (go_at_call 126; refine (lastOvr_sk (((hX4.drewN _).setL j e.lv hlt).drewN _).sk).mono ?_; rintro x w' ⟨rfl, q3, rfl⟩))
                  go_wp2_with (first | fail)
                  go_meet
                  case rel => rw [← HTy.out, ← HL.out]; exact (((hX4.drewN _).setL j e.lv hlt).drewN _).setT j e.o hlt
              case rest =>
                clear c0 c1 c2 c3 c4 c5 c6 c7 hX hX2 hX3 hX4 hc6 e6 e7 a5 al alf hc htf hlcell hlf
                rename_i wc hcut
                go_upto_region 29 with (first | (go_at_call 125; refine (lastLev_sk hcut.sk).mono ?_; rintro x w' ⟨rfl, q5, rfl⟩))
                have hY := hcut.drewN q5
                by_cases hn1 : nl ≤ 125
                · by_cases hn2 : s.oi = 0
                  · have b2 : ((s.oi : Int) == 0) = true := by rw [hn2]; rfl
                    by_cases hn3 : s.oe = 0
                    · have b3 : ((s.oe : Int) == 0) = true := by rw [hn3]; rfl
                      have hs2 : s.begin_ 0 = ⟨⟨nl, none, true⟩ :: s.st, s.oi, s.oe, s.vi + 1⟩ := by unfold XS.begin_; rw [HTP.out, ← HNL.out, if_pos ⟨hn1, hn2, hn3⟩]
                      have HS2 : Hid (j + 1 < B.n → (⟨⟨nl, none, true⟩ :: s.st, s.oi, s.oe, s.vi + 1⟩ : XS) = xs cs B.base (j + 1)) := fun _ => by rw [D3.out, hs2]
                      clear hs2
                      go_wp2_with (first | (go_at_call 124; refine (stkPush_sk hY.sk (by simp; omega) nl none true).mono ?_; rintro x w6 ⟨rfl, hs6, hu6⟩; have hZ := hY.stk hs6 hu6))
                      go_roundg (B.n + 1 - (j + 1))
                      case measure => have := hk.out; omega
                      case rel => exact ⟨j + 1, ⟨⟨nl, none, true⟩ :: s.st, s.oi, s.oe, s.vi + 1⟩, (by first | rfl | (simp only [hn2, hn3]; rfl) | (simp only [hn3]; rfl) | (simp only [hn2]; rfl)), (by first | rfl | (simp only [hn2, hn3]; rfl) | (simp only [hn3]; rfl) | (simp only [hn2]; rfl)), by go_num, by go_num, by omega, by rw [HST.out]; exact hZ, HS2, Nat.le_refl _⟩

                    · have b3 : ((s.oe : Int) == 0) = false := by simpa using hn3
                      have hs2 : s.begin_ 0 = ⟨s.st, s.oi + 1, s.oe, s.vi⟩ := by unfold XS.begin_; rw [HTP.out, ← HNL.out, if_neg (fun h => hn3 h.2.2)]
                      have HS2 : Hid (j + 1 < B.n → (⟨s.st, s.oi + 1, s.oe, s.vi⟩ : XS) = xs cs B.base (j + 1)) := fun _ => by rw [D3.out, hs2]
                      clear hs2
                      go_wp2_with (first | fail)
                      go_roundg (B.n + 1 - (j + 1))
                      case measure => have := hk.out; omega
                      case rel => exact ⟨j + 1, ⟨s.st, s.oi + 1, s.oe, s.vi⟩, by go_num, (by first | rfl | (simp only [hn2, hn3]; rfl) | (simp only [hn3]; rfl) | (simp only [hn2]; rfl)), rfl, by go_num, by omega, by rw [HST.out]; exact hY, HS2, Nat.le_refl _⟩

                  · have b2 : ((s.oi : Int) == 0) = false := by simpa using hn2
                    have hs2 : s.begin_ 0 = ⟨s.st, s.oi + 1, s.oe, s.vi⟩ := by unfold XS.begin_; rw [HTP.out, ← HNL.out, if_neg (fun h => hn2 h.2.1)]
                    have HS2 : Hid (j + 1 < B.n → (⟨s.st, s.oi + 1, s.oe, s.vi⟩ : XS) = xs cs B.base (j + 1)) := fun _ => by rw [D3.out, hs2]
                    clear hs2
                    go_wp2_with (first | fail)
                    go_roundg (B.n + 1 - (j + 1))
                    case measure => have := hk.out; omega
                    case rel => exact ⟨j + 1, ⟨s.st, s.oi + 1, s.oe, s.vi⟩, by go_num, (by first | rfl | (simp only [hn2, hn3]; rfl) | (simp only [hn3]; rfl) | (simp only [hn2]; rfl)), rfl, by go_num, by omega, by rw [HST.out]; exact hY, HS2, Nat.le_refl _⟩

                · have hs2 : s.begin_ 0 = ⟨s.st, s.oi + 1, s.oe, s.vi⟩ := by unfold XS.begin_; rw [HTP.out, ← HNL.out, if_neg (fun h => hn1 h.1)]
                  have HS2 : Hid (j + 1 < B.n → (⟨s.st, s.oi + 1, s.oe, s.vi⟩ : XS) = xs cs B.base (j + 1)) := fun _ => by rw [D3.out, hs2]
                  clear hs2
                  go_wp2_with (first | fail)
                  go_roundg (B.n + 1 - (j + 1))
                  case measure => have := hk.out; omega
                  case rel => exact ⟨j + 1, ⟨s.st, s.oi + 1, s.oe, s.vi⟩, by go_num, (by first | rfl | (simp only [hn2, hn3]; rfl) | (simp only [hn3]; rfl) | (simp only [hn2]; rfl)), rfl, by go_num, by omega, by rw [HST.out]; exact hY, HS2, Nat.le_refl _⟩
          · as_aux_lemma =>
              have hodd : initOdd cs j = 1 := by rw [initOdd, hcc]; exact hfs
              rw [hcc] at hc
              replace hc : wr.cell? ⟨B.gt, j, none⟩ = some (.int .u64 23) := hc
              have d1 := plv_init (base := B.base) hcl
              have d2 := pty_init (base := B.base) hcl
              have d3 := xs_init (base := B.base) hcl
              rw [← hs, htop] at d1 d2
              rw [← hs, hodd] at d3
              have hc6 := hX.rm.num j (by rw [mt_length]; exact hlc)
              rw [nth_mt hlc, mAt_init hcl] at hc6
              have HNE : Hid (∀ q, j + 1 ≤ q → q < mOf cs j → (cat cs q).isInit = true → mOf cs q ≤ mOf cs j) := fun q h1 h2 h3 => mOf_nest hlc (by omega) h2 h3
              have HSA : Hid (∀ q, j + 1 ≤ q → q < mOf cs j → cat (ptyK cs B.base j) q = cat cs q) := fun q h1 h2 => by rw [cat_ptyK (by have := mOf_le cs j; omega), if_neg (by omega)]
              have hml := mOf_le cs j
              have hb1 : (fsLev cs (j + 1) (mOf cs j) == 1) = true := by rw [hfs]; rfl
              obtain ⟨nl, hnl⟩ : ∃ nl, nl = nextLv e.lv 1 := ⟨_, rfl⟩
              have hbits : bits .or .i8 (e.lv + 1) 1 = nl := by rw [hnl]; exact next_odd hlv0 hlv
              have hnl2 : e.lv < nl ∧ nl ≤ e.lv + 2 := by rw [hnl]; exact nextLv_gt _ _ (by omega)
              have HMA := Lib.hid (mAt_init hcl)
              have HL := Lib.hid (plvK_set hlc d1)
              have HST := Lib.hid hst
              have HNL := Lib.hid hnl
              have HTP := Lib.hid htop
              have D2 := Lib.hid d2
              have D3 := Lib.hid d3
              have HOX := Lib.hid hox
              clear hX1 hcc hs hok hst htop hodd d1 d2 d3 hnl hox hcl hfs
              go_upto_if 71 with (first
                | (go_at_call 106; refine (in_upd (c := .FSI) (l := [.RLI, .LRI, .FSI]) true (by simp) (by rfl) rfl rfl (by decide) _).mono ?_; rintro x w1 ⟨rfl, hu1⟩; have hX2 := hX.upd0 hu1)
                | (go_at_call 106; refine (in_upd (c := .FSI) (l := [.RLE, .RLO, .RLI]) false (by simp) (by rfl) rfl rfl (by decide) _).mono ?_; rintro x w2 ⟨rfl, hu2⟩; have hX3 := hX2.upd0 hu2; have e6 := hX3.par.cells.c6; have e7 := hX3.rm.num j (by rw [mt_length]; exact hlc); rw [nth_mt hlc, HMA.out] at e7)
                | (go_at_call 121; refine (embLev_any B.b B.gt B.ct B.gm 0 (mOf cs j) (j + 1) (ptyK cs B.base j) cs _ (by rw [← HN.out]; exact hX3.par.cells.c4) (by rw [← HN.out]; exact hX3.par.cells.c6) hX3.rt hX3.rm (ptyK_length _ _ _) hml (by omega) hm HSA.out HNE.out).mono ?_; rintro x w3 ⟨rfl, hu3⟩; have hX4 := hX3.upd0 hu3))
              have a5 := hX4.c5
              have al := hX4.rl.num j (by rw [plvK_length]; exact hlc)
              have alf := hX4.rl.free j
              go_cut [] (fun wx => XF B w wx (mt cs) (ptyK cs B.base (j + 1)) (plvK cs B.base (j + 1)) (e :: r))
              case first =>
                go_wp2_with (first | fail)
                go_region_held3 (fun w' => w'.cell? ⟨B.b, 5, none⟩ = some (.slice (some ⟨B.gl, 0, none⟩) B.n B.cl))
                  (first | exact a5 | exact hX4.drew.c5 | exact ((hX4.drewN _).setL j _ hlt).c5)
                  (first | (go_at_call 125; refine (lastLev_sk hX4.drew.sk).mono ?_; rintro x w' ⟨rfl, q, rfl⟩))
                have a4 := ((hX4.drewN (1 + q)).setL j e.lv hlt).c4
                have at_ := ((hX4.drewN (1 + q)).setL j e.lv hlt).rt.cls j (by rw [ptyK_length]; exact hlc)
                have af := ((hX4.drewN (1 + q)).setL j e.lv hlt).rt.free j
                by_cases hov : e.ov = none
                · have o1 : (e.o.e2 != 10) = false := by rw [Ent.o, hov]; rfl
                  have HTy : Hid (ptyK cs B.base j = ptyK cs B.base (j + 1)) := ptyK_same hlc (by rw [D2.out, hov]; rfl)
                  clear hov
                  go_wp2_with (first | (go_at_call 126; refine (lastOvr_sk ((hX4.drewN _).setL j e.lv hlt).sk).mono ?_; rintro x w' ⟨rfl, q2, rfl⟩))
                  go_meet
                  case rel => rw [← HTy.out, ← HL.out]; exact ((hX4.drewN _).setL j e.lv hlt).drewN _
                · have hov2 : e.ov = some e.o := by
                    rcases HOX.out with h | h | h
                    · exact absurd h hov
                    · rw [Ent.o, h]; rfl
                    · rw [Ent.o, h]; rfl
                  have o1 : (e.o.e2 != 10) = true := by
                    rcases HOX.out with h | h | h
                    · exact absurd h hov
                    · rw [Ent.o, h]; rfl
                    · rw [Ent.o, h]; rfl
                  have HTy : Hid ((ptyK cs B.base j).set j e.o = ptyK cs B.base (j + 1)) := ptyK_set hlc (by rw [D2.out, hov2]; rfl)
                  clear hov hov2
                  go_wp2_with (first | (go_at_call 126; refine (lastOvr_sk ((hX4.drewN _).setL j e.lv hlt).sk).mono ?_; rintro x w' ⟨rfl, q2, rfl⟩))
                  go_region_held3 (fun w' => w'.cell? ⟨B.b, 4, none⟩ = some (.slice (some ⟨B.gt, 0, none⟩) B.n B.ct))
                    (first | exact a4 | exact (((hX4.drewN _).setL j e.lv hlt).drewN _).c4 | exact ((((hX4.drewN _).setL j e.lv hlt).drewN _).setT j e.o hlt).c4)
                    (first | (go_at_call 126; refine (lastOvr_sk (((hX4.drewN _).setL j e.lv hlt).drewN _).drew.sk).mono ?_; rintro x w' ⟨rfl, q3, rfl⟩) | (go_at_call 126; refine (lastOvr_sk (((hX4.drewN _).setL j e.lv hlt).drewN _).sk).mono ?_; rintro x w' ⟨rfl, q3, rfl⟩))
                  go_wp2_with (first | fail)
                  go_meet
                  case rel => rw [← HTy.out, ← HL.out]; exact (((hX4.drewN _).setL j e.lv hlt).drewN _).setT j e.o hlt
              case rest =>
                clear c0 c1 c2 c3 c4 c5 c6 c7 hX hX2 hX3 hX4 hc6 e6 e7 a5 al alf hc htf hlcell hlf
                rename_i wc hcut
                go_upto_region 29 with (first | (go_at_call 125; refine (lastLev_sk hcut.sk).mono ?_; rintro x w' ⟨rfl, q5, rfl⟩))
                have hY := hcut.drewN q5
                by_cases hn1 : nl ≤ 125
                · by_cases hn2 : s.oi = 0
                  · have b2 : ((s.oi : Int) == 0) = true := by rw [hn2]; rfl
                    by_cases hn3 : s.oe = 0
                    · have b3 : ((s.oe : Int) == 0) = true := by rw [hn3]; rfl
                      have hs2 : s.begin_ 1 = ⟨⟨nl, none, true⟩ :: s.st, s.oi, s.oe, s.vi + 1⟩ := by unfold XS.begin_; rw [HTP.out, ← HNL.out, if_pos ⟨hn1, hn2, hn3⟩]
                      have HS2 : Hid (j + 1 < B.n → (⟨⟨nl, none, true⟩ :: s.st, s.oi, s.oe, s.vi + 1⟩ : XS) = xs cs B.base (j + 1)) := fun _ => by rw [D3.out, hs2]
                      clear hs2
                      go_wp2_with (first | (go_at_call 124; refine (stkPush_sk hY.sk (by simp; omega) nl none true).mono ?_; rintro x w6 ⟨rfl, hs6, hu6⟩; have hZ := hY.stk hs6 hu6))
                      go_roundg (B.n + 1 - (j + 1))
                      case measure => have := hk.out; omega
                      case rel => exact ⟨j + 1, ⟨⟨nl, none, true⟩ :: s.st, s.oi, s.oe, s.vi + 1⟩, (by first | rfl | (simp only [hn2, hn3]; rfl) | (simp only [hn3]; rfl) | (simp only [hn2]; rfl)), (by first | rfl | (simp only [hn2, hn3]; rfl) | (simp only [hn3]; rfl) | (simp only [hn2]; rfl)), by go_num, by go_num, by omega, by rw [HST.out]; exact hZ, HS2, Nat.le_refl _⟩

                    · have b3 : ((s.oe : Int) == 0) = false := by simpa using hn3
                      have hs2 : s.begin_ 1 = ⟨s.st, s.oi + 1, s.oe, s.vi⟩ := by unfold XS.begin_; rw [HTP.out, ← HNL.out, if_neg (fun h => hn3 h.2.2)]
                      have HS2 : Hid (j + 1 < B.n → (⟨s.st, s.oi + 1, s.oe, s.vi⟩ : XS) = xs cs B.base (j + 1)) := fun _ => by rw [D3.out, hs2]
                      clear hs2
                      go_wp2_with (first | fail)
                      go_roundg (B.n + 1 - (j + 1))
                      case measure => have := hk.out; omega
                      case rel => exact ⟨j + 1, ⟨s.st, s.oi + 1, s.oe, s.vi⟩, by go_num, (by first | rfl | (simp only [hn2, hn3]; rfl) | (simp only [hn3]; rfl) | (simp only [hn2]; rfl)), rfl, by go_num, by omega, by rw [HST.out]; exact hY, HS2, Nat.le_refl _⟩

                  · have b2 : ((s.oi : Int) == 0) = false := by simpa using hn2
                    have hs2 : s.begin_ 1 = ⟨s.st, s.oi + 1, s.oe, s.vi⟩ := by unfold XS.begin_; rw [HTP.out, ← HNL.out, if_neg (fun h => hn2 h.2.1)]
                    have HS2 : Hid (j + 1 < B.n → (⟨s.st, s.oi + 1, s.oe, s.vi⟩ : XS) = xs cs B.base (j + 1)) := fun _ => by rw [D3.out, hs2]
                    clear hs2
                    go_wp2_with (first | fail)
                    go_roundg (B.n + 1 - (j + 1))
                    case measure => have := hk.out; omega
                    case rel => exact ⟨j + 1, ⟨s.st, s.oi + 1, s.oe, s.vi⟩, by go_num, (by first | rfl | (simp only [hn2, hn3]; rfl) | (simp only [hn3]; rfl) | (simp only [hn2]; rfl)), rfl, by go_num, by omega, by rw [HST.out]; exact hY, HS2, Nat.le_refl _⟩

                · have hs2 : s.begin_ 1 = ⟨s.st, s.oi + 1, s.oe, s.vi⟩ := by unfold XS.begin_; rw [HTP.out, ← HNL.out, if_neg (fun h => hn1 h.1)]
                  have HS2 : Hid (j + 1 < B.n → (⟨s.st, s.oi + 1, s.oe, s.vi⟩ : XS) = xs cs B.base (j + 1)) := fun _ => by rw [D3.out, hs2]
                  clear hs2
                  go_wp2_with (first | fail)
                  go_roundg (B.n + 1 - (j + 1))
                  case measure => have := hk.out; omega
                  case rel => exact ⟨j + 1, ⟨s.st, s.oi + 1, s.oe, s.vi⟩, by go_num, (by first | rfl | (simp only [hn2, hn3]; rfl) | (simp only [hn3]; rfl) | (simp only [hn2]; rfl)), rfl, by go_num, by omega, by rw [HST.out]; exact hY, HS2, Nat.le_refl _⟩
      · -- embeddings
        have hcx : cat cs j = .RLE ∨ cat cs j = .LRE ∨ cat cs j = .RLO ∨ cat cs j = .LRO := by revert hcl; cases cat cs j <;> simp [isEmb]
        rcases hcx with hcc | hcc | hcc | hcc
        · as_aux_lemma =>
            rw [hcc] at hc
            replace hc : wr.cell? ⟨B.gt, j, none⟩ = some (.int .u64 19) := hc
            have d1 := plv_emb (base := B.base) hcl
            have d2 := pty_emb (base := B.base) hcl
            have d3 := xs_emb (base := B.base) hcl
            rw [hcc] at d1 d3
            rw [← hs] at d1 d3
            replace d3 : xs cs B.base (j + 1) = s.embed 1 (none) := d3
            replace d1 : plv cs B.base j = embLv s 1 B.base := d1
            rw [embLv, htop] at d1
            obtain ⟨nl, hnl⟩ : ∃ nl, nl = nextLv e.lv 1 := ⟨_, rfl⟩
            have hbits : bits .or .i8 (e.lv + 1) 1 = nl := by rw [hnl]; exact next_odd hlv0 hlv
            have hnl2 : e.lv < nl ∧ nl ≤ e.lv + 2 := by rw [hnl]; exact nextLv_gt _ _ (by omega)
            rw [← hnl] at d1
            have HST := Lib.hid hst
            have HNL := Lib.hid hnl
            have HTP := Lib.hid htop
            have HTy : Hid (ptyK cs B.base j = ptyK cs B.base (j + 1)) := ptyK_same hlc d2
            have D1 := Lib.hid d1
            have D3 := Lib.hid d3
            clear hX1 hcc hs hok hst htop d1 d2 d3 hnl hox hcl
            go_upto_region 29 with (first
              | (go_at_call 106; refine (in_upd (c := .RLE) (l := [.RLI, .LRI, .FSI]) false (by simp) (by rfl) rfl rfl (by decide) _).mono ?_; rintro x w1 ⟨rfl, hu1⟩; have hX2 := hX.upd0 hu1)
              | (go_at_call 106; refine (in_upd (c := .RLE) (l := [.RLE, .RLO, .RLI]) true (by simp) (by rfl) rfl rfl (by decide) _).mono ?_; rintro x w2 ⟨rfl, hu2⟩; have hX3 := hX2.upd0 hu2)
              | (go_at_call 125; refine (lastLev_sk hX3.sk).mono ?_; rintro x w' ⟨rfl, q5, rfl⟩))
            have hY := hX3.drewN q5
            clear c0 c1 c2 c3 c4 c5 c6 c7 hX hX2 hX3 hu2 hu1 hlcell hlf htf hc
            by_cases hn1 : nl ≤ 125
            · by_cases hn2 : s.oi = 0
              · have b2 : ((s.oi : Int) == 0) = true := by rw [hn2]; rfl
                by_cases hn3 : s.oe = 0
                · have b3 : ((s.oe : Int) == 0) = true := by rw [hn3]; rfl
                  have hs2 : s.embed 1 (none) = ⟨⟨nl, none, false⟩ :: s.st, s.oi, s.oe, s.vi⟩ := by unfold XS.embed; rw [HTP.out, ← HNL.out, if_pos ⟨hn1, hn2, hn3⟩]
                  have HS2 : Hid (j + 1 < B.n → (⟨⟨nl, none, false⟩ :: s.st, s.oi, s.oe, s.vi⟩ : XS) = xs cs B.base (j + 1)) := fun _ => by rw [D3.out, hs2]
                  have HL : Hid ((plvK cs B.base j).set j nl = plvK cs B.base (j + 1)) := plvK_set hlc (by rw [D1.out, if_pos ⟨hn1, hn2, hn3⟩])
                  clear hs2
                  go_wp2_with (first | (go_at_call 124; refine (stkPush_sk hY.sk (by simp; omega) nl (none) false).mono ?_; rintro x w6 ⟨rfl, hs6, hu6⟩; have hZ := hY.stk hs6 hu6; have z5 := hZ.c5; have zl := hZ.rl.num j (by rw [plvK_length]; exact hlc); have zf := hZ.rl.free j))
                  go_roundg (B.n + 1 - (j + 1))
                  case measure => have := hk.out; omega
                  case rel => exact ⟨j + 1, ⟨⟨nl, none, false⟩ :: s.st, s.oi, s.oe, s.vi⟩, (by first | rfl | (simp only [hn2, hn3]; rfl) | (simp only [hn3]; rfl) | (simp only [hn2]; rfl)), (by first | rfl | (simp only [hn2, hn3]; rfl) | (simp only [hn3]; rfl) | (simp only [hn2]; rfl)), rfl, by go_num, by omega, by rw [HST.out, ← HTy.out, ← HL.out]; exact hZ.setL j nl hlt, HS2, Nat.le_refl _⟩

                · have b3 : ((s.oe : Int) == 0) = false := by simpa using hn3
                  have hs2 : s.embed 1 (none) = ⟨s.st, s.oi, s.oe + 1, s.vi⟩ := by unfold XS.embed; rw [HTP.out, ← HNL.out, if_neg (fun h => hn3 h.2.2), if_pos hn2]
                  have HS2 : Hid (j + 1 < B.n → (⟨s.st, s.oi, s.oe + 1, s.vi⟩ : XS) = xs cs B.base (j + 1)) := fun _ => by rw [D3.out, hs2]
                  have HL : Hid (plvK cs B.base j = plvK cs B.base (j + 1)) := plvK_same hlc (by rw [D1.out, if_neg (fun h => hn3 h.2.2)])
                  clear hs2
                  go_wp2_with (first | fail)
                  go_roundg (B.n + 1 - (j + 1))
                  case measure => have := hk.out; omega
                  case rel => exact ⟨j + 1, ⟨s.st, s.oi, s.oe + 1, s.vi⟩, (by first | rfl | (simp only [hn2, hn3]; rfl) | (simp only [hn3]; rfl) | (simp only [hn2]; rfl)), by go_num, rfl, by go_num, by omega, by rw [HST.out, ← HTy.out, ← HL.out]; exact hY, HS2, Nat.le_refl _⟩

              · have b2 : ((s.oi : Int) == 0) = false := by simpa using hn2
                have hs2 : s.embed 1 (none) = s := by unfold XS.embed; rw [HTP.out, ← HNL.out, if_neg (fun h => hn2 h.2.1), if_neg hn2]
                have HS2 : Hid (j + 1 < B.n → s = xs cs B.base (j + 1)) := fun _ => by rw [D3.out, hs2]
                have HL : Hid (plvK cs B.base j = plvK cs B.base (j + 1)) := plvK_same hlc (by rw [D1.out, if_neg (fun h => hn2 h.2.1)])
                clear hs2
                go_wp2_with (first | fail)
                go_roundg (B.n + 1 - (j + 1))
                case measure => have := hk.out; omega
                case rel => exact ⟨j + 1, s, (by first | rfl | (simp only [hn2, hn3]; rfl) | (simp only [hn3]; rfl) | (simp only [hn2]; rfl)), (by first | rfl | (simp only [hn2, hn3]; rfl) | (simp only [hn3]; rfl) | (simp only [hn2]; rfl)), rfl, by go_num, by omega, by rw [HST.out, ← HTy.out, ← HL.out]; exact hY, HS2, Nat.le_refl _⟩

            · by_cases hn2 : s.oi = 0
              · have b2 : ((s.oi : Int) == 0) = true := by rw [hn2]; rfl
                have hs2 : s.embed 1 (none) = ⟨s.st, s.oi, s.oe + 1, s.vi⟩ := by unfold XS.embed; rw [HTP.out, ← HNL.out, if_neg (fun h => hn1 h.1), if_pos hn2]
                have HS2 : Hid (j + 1 < B.n → (⟨s.st, s.oi, s.oe + 1, s.vi⟩ : XS) = xs cs B.base (j + 1)) := fun _ => by rw [D3.out, hs2]
                have HL : Hid (plvK cs B.base j = plvK cs B.base (j + 1)) := plvK_same hlc (by rw [D1.out, if_neg (fun h => hn1 h.1)])
                clear hs2
                go_wp2_with (first | fail)
                go_roundg (B.n + 1 - (j + 1))
                case measure => have := hk.out; omega
                case rel => exact ⟨j + 1, ⟨s.st, s.oi, s.oe + 1, s.vi⟩, (by first | rfl | (simp only [hn2, hn3]; rfl) | (simp only [hn3]; rfl) | (simp only [hn2]; rfl)), by go_num, rfl, by go_num, by omega, by rw [HST.out, ← HTy.out, ← HL.out]; exact hY, HS2, Nat.le_refl _⟩

              · have b2 : ((s.oi : Int) == 0) = false := by simpa using hn2
                have hs2 : s.embed 1 (none) = s := by unfold XS.embed; rw [HTP.out, ← HNL.out, if_neg (fun h => hn1 h.1), if_neg hn2]
                have HS2 : Hid (j + 1 < B.n → s = xs cs B.base (j + 1)) := fun _ => by rw [D3.out, hs2]
                have HL : Hid (plvK cs B.base j = plvK cs B.base (j + 1)) := plvK_same hlc (by rw [D1.out, if_neg (fun h => hn1 h.1)])
                clear hs2
                go_wp2_with (first | fail)
                go_roundg (B.n + 1 - (j + 1))
                case measure => have := hk.out; omega
                case rel => exact ⟨j + 1, s, (by first | rfl | (simp only [hn2, hn3]; rfl) | (simp only [hn3]; rfl) | (simp only [hn2]; rfl)), (by first | rfl | (simp only [hn2, hn3]; rfl) | (simp only [hn3]; rfl) | (simp only [hn2]; rfl)), rfl, by go_num, by omega, by rw [HST.out, ← HTy.out, ← HL.out]; exact hY, HS2, Nat.le_refl _⟩

        · as_aux_lemma =>
            rw [hcc] at hc
            replace hc : wr.cell? ⟨B.gt, j, none⟩ = some (.int .u64 18) := hc
            have d1 := plv_emb (base := B.base) hcl
            have d2 := pty_emb (base := B.base) hcl
            have d3 := xs_emb (base := B.base) hcl
            rw [hcc] at d1 d3
            rw [← hs] at d1 d3
            replace d3 : xs cs B.base (j + 1) = s.embed 0 (none) := d3
            replace d1 : plv cs B.base j = embLv s 0 B.base := d1
            rw [embLv, htop] at d1
            obtain ⟨nl, hnl⟩ : ∃ nl, nl = nextLv e.lv 0 := ⟨_, rfl⟩
            have hbits : bits .andNot .i8 (e.lv + 2) 1 = nl := by rw [hnl]; exact next_even hlv0 hlv
            have hnl2 : e.lv < nl ∧ nl ≤ e.lv + 2 := by rw [hnl]; exact nextLv_gt _ _ (by omega)
            rw [← hnl] at d1
            have HST := Lib.hid hst
            have HNL := Lib.hid hnl
            have HTP := Lib.hid htop
            have HTy : Hid (ptyK cs B.base j = ptyK cs B.base (j + 1)) := ptyK_same hlc d2
            have D1 := Lib.hid d1
            have D3 := Lib.hid d3
            clear hX1 hcc hs hok hst htop d1 d2 d3 hnl hox hcl
            go_upto_region 29 with (first
              | (go_at_call 106; refine (in_upd (c := .LRE) (l := [.RLI, .LRI, .FSI]) false (by simp) (by rfl) rfl rfl (by decide) _).mono ?_; rintro x w1 ⟨rfl, hu1⟩; have hX2 := hX.upd0 hu1)
              | (go_at_call 106; refine (in_upd (c := .LRE) (l := [.RLE, .RLO, .RLI]) false (by simp) (by rfl) rfl rfl (by decide) _).mono ?_; rintro x w2 ⟨rfl, hu2⟩; have hX3 := hX2.upd0 hu2)
              | (go_at_call 125; refine (lastLev_sk hX3.sk).mono ?_; rintro x w' ⟨rfl, q5, rfl⟩))
            have hY := hX3.drewN q5
            clear c0 c1 c2 c3 c4 c5 c6 c7 hX hX2 hX3 hu2 hu1 hlcell hlf htf hc
            by_cases hn1 : nl ≤ 125
            · by_cases hn2 : s.oi = 0
              · have b2 : ((s.oi : Int) == 0) = true := by rw [hn2]; rfl
                by_cases hn3 : s.oe = 0
                · have b3 : ((s.oe : Int) == 0) = true := by rw [hn3]; rfl
                  have hs2 : s.embed 0 (none) = ⟨⟨nl, none, false⟩ :: s.st, s.oi, s.oe, s.vi⟩ := by unfold XS.embed; rw [HTP.out, ← HNL.out, if_pos ⟨hn1, hn2, hn3⟩]
                  have HS2 : Hid (j + 1 < B.n → (⟨⟨nl, none, false⟩ :: s.st, s.oi, s.oe, s.vi⟩ : XS) = xs cs B.base (j + 1)) := fun _ => by rw [D3.out, hs2]
                  have HL : Hid ((plvK cs B.base j).set j nl = plvK cs B.base (j + 1)) := plvK_set hlc (by rw [D1.out, if_pos ⟨hn1, hn2, hn3⟩])
                  clear hs2
                  go_wp2_with (first | (go_at_call 124; refine (stkPush_sk hY.sk (by simp; omega) nl (none) false).mono ?_; rintro x w6 ⟨rfl, hs6, hu6⟩; have hZ := hY.stk hs6 hu6; have z5 := hZ.c5; have zl := hZ.rl.num j (by rw [plvK_length]; exact hlc); have zf := hZ.rl.free j))
                  go_roundg (B.n + 1 - (j + 1))
                  case measure => have := hk.out; omega
                  case rel => exact ⟨j + 1, ⟨⟨nl, none, false⟩ :: s.st, s.oi, s.oe, s.vi⟩, (by first | rfl | (simp only [hn2, hn3]; rfl) | (simp only [hn3]; rfl) | (simp only [hn2]; rfl)), (by first | rfl | (simp only [hn2, hn3]; rfl) | (simp only [hn3]; rfl) | (simp only [hn2]; rfl)), rfl, by go_num, by omega, by rw [HST.out, ← HTy.out, ← HL.out]; exact hZ.setL j nl hlt, HS2, Nat.le_refl _⟩

                · have b3 : ((s.oe : Int) == 0) = false := by simpa using hn3
                  have hs2 : s.embed 0 (none) = ⟨s.st, s.oi, s.oe + 1, s.vi⟩ := by unfold XS.embed; rw [HTP.out, ← HNL.out, if_neg (fun h => hn3 h.2.2), if_pos hn2]
                  have HS2 : Hid (j + 1 < B.n → (⟨s.st, s.oi, s.oe + 1, s.vi⟩ : XS) = xs cs B.base (j + 1)) := fun _ => by rw [D3.out, hs2]
                  have HL : Hid (plvK cs B.base j = plvK cs B.base (j + 1)) := plvK_same hlc (by rw [D1.out, if_neg (fun h => hn3 h.2.2)])
                  clear hs2
                  go_wp2_with (first | fail)
                  go_roundg (B.n + 1 - (j + 1))
                  case measure => have := hk.out; omega
                  case rel => exact ⟨j + 1, ⟨s.st, s.oi, s.oe + 1, s.vi⟩, (by first | rfl | (simp only [hn2, hn3]; rfl) | (simp only [hn3]; rfl) | (simp only [hn2]; rfl)), by go_num, rfl, by go_num, by omega, by rw [HST.out, ← HTy.out, ← HL.out]; exact hY, HS2, Nat.le_refl _⟩

              · have b2 : ((s.oi : Int) == 0) = false := by simpa using hn2
                have hs2 : s.embed 0 (none) = s := by unfold XS.embed; rw [HTP.out, ← HNL.out, if_neg (fun h => hn2 h.2.1), if_neg hn2]
                have HS2 : Hid (j + 1 < B.n → s = xs cs B.base (j + 1)) := fun _ => by rw [D3.out, hs2]
                have HL : Hid (plvK cs B.base j = plvK cs B.base (j + 1)) := plvK_same hlc (by rw [D1.out, if_neg (fun h => hn2 h.2.1)])
                clear hs2
                go_wp2_with (first | fail)
                go_roundg (B.n + 1 - (j + 1))
                case measure => have := hk.out; omega
                case rel => exact ⟨j + 1, s, (by first | rfl | (simp only [hn2, hn3]; rfl) | (simp only [hn3]; rfl) | (simp only [hn2]; rfl)), (by first | rfl | (simp only [hn2, hn3]; rfl) | (simp only [hn3]; rfl) | (simp only [hn2]; rfl)), rfl, by go_num, by omega, by rw [HST.out, ← HTy.out, ← HL.out]; exact hY, HS2, Nat.le_refl _⟩

            · by_cases hn2 : s.oi = 0
              · have b2 : ((s.oi : Int) == 0) = true := by rw [hn2]; rfl
                have hs2 : s.embed 0 (none) = ⟨s.st, s.oi, s.oe + 1, s.vi⟩ := by unfold XS.embed; rw [HTP.out, ← HNL.out, if_neg (fun h => hn1 h.1), if_pos hn2]
                have HS2 : Hid (j + 1 < B.n → (⟨s.st, s.oi, s.oe + 1, s.vi⟩ : XS) = xs cs B.base (j + 1)) := fun _ => by rw [D3.out, hs2]
                have HL : Hid (plvK cs B.base j = plvK cs B.base (j + 1)) := plvK_same hlc (by rw [D1.out, if_neg (fun h => hn1 h.1)])
                clear hs2
                go_wp2_with (first | fail)
                go_roundg (B.n + 1 - (j + 1))
                case measure => have := hk.out; omega
                case rel => exact ⟨j + 1, ⟨s.st, s.oi, s.oe + 1, s.vi⟩, (by first | rfl | (simp only [hn2, hn3]; rfl) | (simp only [hn3]; rfl) | (simp only [hn2]; rfl)), by go_num, rfl, by go_num, by omega, by rw [HST.out, ← HTy.out, ← HL.out]; exact hY, HS2, Nat.le_refl _⟩

              · have b2 : ((s.oi : Int) == 0) = false := by simpa using hn2
                have hs2 : s.embed 0 (none) = s := by unfold XS.embed; rw [HTP.out, ← HNL.out, if_neg (fun h => hn1 h.1), if_neg hn2]
                have HS2 : Hid (j + 1 < B.n → s = xs cs B.base (j + 1)) := fun _ => by rw [D3.out, hs2]
                have HL : Hid (plvK cs B.base j = plvK cs B.base (j + 1)) := plvK_same hlc (by rw [D1.out, if_neg (fun h => hn1 h.1)])
                clear hs2
                go_wp2_with (first | fail)
                go_roundg (B.n + 1 - (j + 1))
                case measure => have := hk.out; omega
                case rel => exact ⟨j + 1, s, (by first | rfl | (simp only [hn2, hn3]; rfl) | (simp only [hn3]; rfl) | (simp only [hn2]; rfl)), (by first | rfl | (simp only [hn2, hn3]; rfl) | (simp only [hn3]; rfl) | (simp only [hn2]; rfl)), rfl, by go_num, by omega, by rw [HST.out, ← HTy.out, ← HL.out]; exact hY, HS2, Nat.le_refl _⟩

        · as_aux_lemma =>
            rw [hcc] at hc
            replace hc : wr.cell? ⟨B.gt, j, none⟩ = some (.int .u64 17) := hc
            have d1 := plv_emb (base := B.base) hcl
            have d2 := pty_emb (base := B.base) hcl
            have d3 := xs_emb (base := B.base) hcl
            rw [hcc] at d1 d3
            rw [← hs] at d1 d3
            replace d3 : xs cs B.base (j + 1) = s.embed 1 (some .R) := d3
            replace d1 : plv cs B.base j = embLv s 1 B.base := d1
            rw [embLv, htop] at d1
            obtain ⟨nl, hnl⟩ : ∃ nl, nl = nextLv e.lv 1 := ⟨_, rfl⟩
            have hbits : bits .or .i8 (e.lv + 1) 1 = nl := by rw [hnl]; exact next_odd hlv0 hlv
            have hnl2 : e.lv < nl ∧ nl ≤ e.lv + 2 := by rw [hnl]; exact nextLv_gt _ _ (by omega)
            rw [← hnl] at d1
            have HST := Lib.hid hst
            have HNL := Lib.hid hnl
            have HTP := Lib.hid htop
            have HTy : Hid (ptyK cs B.base j = ptyK cs B.base (j + 1)) := ptyK_same hlc d2
            have D1 := Lib.hid d1
            have D3 := Lib.hid d3
            clear hX1 hcc hs hok hst htop d1 d2 d3 hnl hox hcl
            go_upto_region 29 with (first
              | (go_at_call 106; refine (in_upd (c := .RLO) (l := [.RLI, .LRI, .FSI]) false (by simp) (by rfl) rfl rfl (by decide) _).mono ?_; rintro x w1 ⟨rfl, hu1⟩; have hX2 := hX.upd0 hu1)
              | (go_at_call 106; refine (in_upd (c := .RLO) (l := [.RLE, .RLO, .RLI]) true (by simp) (by rfl) rfl rfl (by decide) _).mono ?_; rintro x w2 ⟨rfl, hu2⟩; have hX3 := hX2.upd0 hu2)
              | (go_at_call 125; refine (lastLev_sk hX3.sk).mono ?_; rintro x w' ⟨rfl, q5, rfl⟩))
            have hY := hX3.drewN q5
            clear c0 c1 c2 c3 c4 c5 c6 c7 hX hX2 hX3 hu2 hu1 hlcell hlf htf hc
            by_cases hn1 : nl ≤ 125
            · by_cases hn2 : s.oi = 0
              · have b2 : ((s.oi : Int) == 0) = true := by rw [hn2]; rfl
                by_cases hn3 : s.oe = 0
                · have b3 : ((s.oe : Int) == 0) = true := by rw [hn3]; rfl
                  have hs2 : s.embed 1 (some .R) = ⟨⟨nl, some .R, false⟩ :: s.st, s.oi, s.oe, s.vi⟩ := by unfold XS.embed; rw [HTP.out, ← HNL.out, if_pos ⟨hn1, hn2, hn3⟩]
                  have HS2 : Hid (j + 1 < B.n → (⟨⟨nl, some .R, false⟩ :: s.st, s.oi, s.oe, s.vi⟩ : XS) = xs cs B.base (j + 1)) := fun _ => by rw [D3.out, hs2]
                  have HL : Hid ((plvK cs B.base j).set j nl = plvK cs B.base (j + 1)) := plvK_set hlc (by rw [D1.out, if_pos ⟨hn1, hn2, hn3⟩])
                  clear hs2
                  go_wp2_with (first | (go_at_call 124; refine (stkPush_sk hY.sk (by simp; omega) nl (some .R) false).mono ?_; rintro x w6 ⟨rfl, hs6, hu6⟩; have hZ := hY.stk hs6 hu6; have z5 := hZ.c5; have zl := hZ.rl.num j (by rw [plvK_length]; exact hlc); have zf := hZ.rl.free j))
                  go_roundg (B.n + 1 - (j + 1))
                  case measure => have := hk.out; omega
                  case rel => exact ⟨j + 1, ⟨⟨nl, some .R, false⟩ :: s.st, s.oi, s.oe, s.vi⟩, (by first | rfl | (simp only [hn2, hn3]; rfl) | (simp only [hn3]; rfl) | (simp only [hn2]; rfl)), (by first | rfl | (simp only [hn2, hn3]; rfl) | (simp only [hn3]; rfl) | (simp only [hn2]; rfl)), rfl, by go_num, by omega, by rw [HST.out, ← HTy.out, ← HL.out]; exact hZ.setL j nl hlt, HS2, Nat.le_refl _⟩

                · have b3 : ((s.oe : Int) == 0) = false := by simpa using hn3
                  have hs2 : s.embed 1 (some .R) = ⟨s.st, s.oi, s.oe + 1, s.vi⟩ := by unfold XS.embed; rw [HTP.out, ← HNL.out, if_neg (fun h => hn3 h.2.2), if_pos hn2]
                  have HS2 : Hid (j + 1 < B.n → (⟨s.st, s.oi, s.oe + 1, s.vi⟩ : XS) = xs cs B.base (j + 1)) := fun _ => by rw [D3.out, hs2]
                  have HL : Hid (plvK cs B.base j = plvK cs B.base (j + 1)) := plvK_same hlc (by rw [D1.out, if_neg (fun h => hn3 h.2.2)])
                  clear hs2
                  go_wp2_with (first | fail)
                  go_roundg (B.n + 1 - (j + 1))
                  case measure => have := hk.out; omega
                  case rel => exact ⟨j + 1, ⟨s.st, s.oi, s.oe + 1, s.vi⟩, (by first | rfl | (simp only [hn2, hn3]; rfl) | (simp only [hn3]; rfl) | (simp only [hn2]; rfl)), by go_num, rfl, by go_num, by omega, by rw [HST.out, ← HTy.out, ← HL.out]; exact hY, HS2, Nat.le_refl _⟩

              · have b2 : ((s.oi : Int) == 0) = false := by simpa using hn2
                have hs2 : s.embed 1 (some .R) = s := by unfold XS.embed; rw [HTP.out, ← HNL.out, if_neg (fun h => hn2 h.2.1), if_neg hn2]
                have HS2 : Hid (j + 1 < B.n → s = xs cs B.base (j + 1)) := fun _ => by rw [D3.out, hs2]
                have HL : Hid (plvK cs B.base j = plvK cs B.base (j + 1)) := plvK_same hlc (by rw [D1.out, if_neg (fun h => hn2 h.2.1)])
                clear hs2
                go_wp2_with (first | fail)
                go_roundg (B.n + 1 - (j + 1))
                case measure => have := hk.out; omega
                case rel => exact ⟨j + 1, s, (by first | rfl | (simp only [hn2, hn3]; rfl) | (simp only [hn3]; rfl) | (simp only [hn2]; rfl)), (by first | rfl | (simp only [hn2, hn3]; rfl) | (simp only [hn3]; rfl) | (simp only [hn2]; rfl)), rfl, by go_num, by omega, by rw [HST.out, ← HTy.out, ← HL.out]; exact hY, HS2, Nat.le_refl _⟩

            · by_cases hn2 : s.oi = 0
              · have b2 : ((s.oi : Int) == 0) = true := by rw [hn2]; rfl
                have hs2 : s.embed 1 (some .R) = ⟨s.st, s.oi, s.oe + 1, s.vi⟩ := by unfold XS.embed; rw [HTP.out, ← HNL.out, if_neg (fun h => hn1 h.1), if_pos hn2]
                have HS2 : Hid (j + 1 < B.n → (⟨s.st, s.oi, s.oe + 1, s.vi⟩ : XS) = xs cs B.base (j + 1)) := fun _ => by rw [D3.out, hs2]
                have HL : Hid (plvK cs B.base j = plvK cs B.base (j + 1)) := plvK_same hlc (by rw [D1.out, if_neg (fun h => hn1 h.1)])
                clear hs2
                go_wp2_with (first | fail)
                go_roundg (B.n + 1 - (j + 1))
                case measure => have := hk.out; omega
                case rel => exact ⟨j + 1, ⟨s.st, s.oi, s.oe + 1, s.vi⟩, (by first | rfl | (simp only [hn2, hn3]; rfl) | (simp only [hn3]; rfl) | (simp only [hn2]; rfl)), by go_num, rfl, by go_num, by omega, by rw [HST.out, ← HTy.out, ← HL.out]; exact hY, HS2, Nat.le_refl _⟩

              · have b2 : ((s.oi : Int) == 0) = false := by simpa using hn2
                have hs2 : s.embed 1 (some .R) = s := by unfold XS.embed; rw [HTP.out, ← HNL.out, if_neg (fun h => hn1 h.1), if_neg hn2]
                have HS2 : Hid (j + 1 < B.n → s = xs cs B.base (j + 1)) := fun _ => by rw [D3.out, hs2]
                have HL : Hid (plvK cs B.base j = plvK cs B.base (j + 1)) := plvK_same hlc (by rw [D1.out, if_neg (fun h => hn1 h.1)])
                clear hs2
                go_wp2_with (first | fail)
                go_roundg (B.n + 1 - (j + 1))
                case measure => have := hk.out; omega
                case rel => exact ⟨j + 1, s, (by first | rfl | (simp only [hn2, hn3]; rfl) | (simp only [hn3]; rfl) | (simp only [hn2]; rfl)), (by first | rfl | (simp only [hn2, hn3]; rfl) | (simp only [hn3]; rfl) | (simp only [hn2]; rfl)), rfl, by go_num, by omega, by rw [HST.out, ← HTy.out, ← HL.out]; exact hY, HS2, Nat.le_refl _⟩

        · as_aux_lemma =>
            rw [hcc] at hc
            replace hc : wr.cell? ⟨B.gt, j, none⟩ = some (.int .u64 16) := hc
            have d1 := plv_emb (base := B.base) hcl
            have d2 := pty_emb (base := B.base) hcl
            have d3 := xs_emb (base := B.base) hcl
            rw [hcc] at d1 d3
            rw [← hs] at d1 d3
            replace d3 : xs cs B.base (j + 1) = s.embed 0 (some .L) := d3
            replace d1 : plv cs B.base j = embLv s 0 B.base := d1
            rw [embLv, htop] at d1
            obtain ⟨nl, hnl⟩ : ∃ nl, nl = nextLv e.lv 0 := ⟨_, rfl⟩
            have hbits : bits .andNot .i8 (e.lv + 2) 1 = nl := by rw [hnl]; exact next_even hlv0 hlv
            have hnl2 : e.lv < nl ∧ nl ≤ e.lv + 2 := by rw [hnl]; exact nextLv_gt _ _ (by omega)
            rw [← hnl] at d1
            have HST := Lib.hid hst
            have HNL := Lib.hid hnl
            have HTP := Lib.hid htop
            have HTy : Hid (ptyK cs B.base j = ptyK cs B.base (j + 1)) := ptyK_same hlc d2
            have D1 := Lib.hid d1
            have D3 := Lib.hid d3
            clear hX1 hcc hs hok hst htop d1 d2 d3 hnl hox hcl
            go_upto_region 29 with (first
              | (go_at_call 106; refine (in_upd (c := .LRO) (l := [.RLI, .LRI, .FSI]) false (by simp) (by rfl) rfl rfl (by decide) _).mono ?_; rintro x w1 ⟨rfl, hu1⟩; have hX2 := hX.upd0 hu1)
              | (go_at_call 106; refine (in_upd (c := .LRO) (l := [.RLE, .RLO, .RLI]) false (by simp) (by rfl) rfl rfl (by decide) _).mono ?_; rintro x w2 ⟨rfl, hu2⟩; have hX3 := hX2.upd0 hu2)
              | (go_at_call 125; refine (lastLev_sk hX3.sk).mono ?_; rintro x w' ⟨rfl, q5, rfl⟩))
            have hY := hX3.drewN q5
            clear c0 c1 c2 c3 c4 c5 c6 c7 hX hX2 hX3 hu2 hu1 hlcell hlf htf hc
            by_cases hn1 : nl ≤ 125
            · by_cases hn2 : s.oi = 0
              · have b2 : ((s.oi : Int) == 0) = true := by rw [hn2]; rfl
                by_cases hn3 : s.oe = 0
                · have b3 : ((s.oe : Int) == 0) = true := by rw [hn3]; rfl
                  have hs2 : s.embed 0 (some .L) = ⟨⟨nl, some .L, false⟩ :: s.st, s.oi, s.oe, s.vi⟩ := by unfold XS.embed; rw [HTP.out, ← HNL.out, if_pos ⟨hn1, hn2, hn3⟩]
                  have HS2 : Hid (j + 1 < B.n → (⟨⟨nl, some .L, false⟩ :: s.st, s.oi, s.oe, s.vi⟩ : XS) = xs cs B.base (j + 1)) := fun _ => by rw [D3.out, hs2]
                  have HL : Hid ((plvK cs B.base j).set j nl = plvK cs B.base (j + 1)) := plvK_set hlc (by rw [D1.out, if_pos ⟨hn1, hn2, hn3⟩])
                  clear hs2
                  go_wp2_with (first | (go_at_call 124; refine (stkPush_sk hY.sk (by simp; omega) nl (some .L) false).mono ?_; rintro x w6 ⟨rfl, hs6, hu6⟩; have hZ := hY.stk hs6 hu6; have z5 := hZ.c5; have zl := hZ.rl.num j (by rw [plvK_length]; exact hlc); have zf := hZ.rl.free j))
                  go_roundg (B.n + 1 - (j + 1))
                  case measure => have := hk.out; omega
                  case rel => exact ⟨j + 1, ⟨⟨nl, some .L, false⟩ :: s.st, s.oi, s.oe, s.vi⟩, (by first | rfl | (simp only [hn2, hn3]; rfl) | (simp only [hn3]; rfl) | (simp only [hn2]; rfl)), (by first | rfl | (simp only [hn2, hn3]; rfl) | (simp only [hn3]; rfl) | (simp only [hn2]; rfl)), rfl, by go_num, by omega, by rw [HST.out, ← HTy.out, ← HL.out]; exact hZ.setL j nl hlt, HS2, Nat.le_refl _⟩

                · have b3 : ((s.oe : Int) == 0) = false := by simpa using hn3
                  have hs2 : s.embed 0 (some .L) = ⟨s.st, s.oi, s.oe + 1, s.vi⟩ := by unfold XS.embed; rw [HTP.out, ← HNL.out, if_neg (fun h => hn3 h.2.2), if_pos hn2]
                  have HS2 : Hid (j + 1 < B.n → (⟨s.st, s.oi, s.oe + 1, s.vi⟩ : XS) = xs cs B.base (j + 1)) := fun _ => by rw [D3.out, hs2]
                  have HL : Hid (plvK cs B.base j = plvK cs B.base (j + 1)) := plvK_same hlc (by rw [D1.out, if_neg (fun h => hn3 h.2.2)])
                  clear hs2
                  go_wp2_with (first | fail)
                  go_roundg (B.n + 1 - (j + 1))
                  case measure => have := hk.out; omega
                  case rel => exact ⟨j + 1, ⟨s.st, s.oi, s.oe + 1, s.vi⟩, (by first | rfl | (simp only [hn2, hn3]; rfl) | (simp only [hn3]; rfl) | (simp only [hn2]; rfl)), by go_num, rfl, by go_num, by omega, by rw [HST.out, ← HTy.out, ← HL.out]; exact hY, HS2, Nat.le_refl _⟩

              · have b2 : ((s.oi : Int) == 0) = false := by simpa using hn2
                have hs2 : s.embed 0 (some .L) = s := by unfold XS.embed; rw [HTP.out, ← HNL.out, if_neg (fun h => hn2 h.2.1), if_neg hn2]
                have HS2 : Hid (j + 1 < B.n → s = xs cs B.base (j + 1)) := fun _ => by rw [D3.out, hs2]
                have HL : Hid (plvK cs B.base j = plvK cs B.base (j + 1)) := plvK_same hlc (by rw [D1.out, if_neg (fun h => hn2 h.2.1)])
                clear hs2
                go_wp2_with (first | fail)
                go_roundg (B.n + 1 - (j + 1))
                case measure => have := hk.out; omega
                case rel => exact ⟨j + 1, s, (by first | rfl | (simp only [hn2, hn3]; rfl) | (simp only [hn3]; rfl) | (simp only [hn2]; rfl)), (by first | rfl | (simp only [hn2, hn3]; rfl) | (simp only [hn3]; rfl) | (simp only [hn2]; rfl)), rfl, by go_num, by omega, by rw [HST.out, ← HTy.out, ← HL.out]; exact hY, HS2, Nat.le_refl _⟩

            · by_cases hn2 : s.oi = 0
              · have b2 : ((s.oi : Int) == 0) = true := by rw [hn2]; rfl
                have hs2 : s.embed 0 (some .L) = ⟨s.st, s.oi, s.oe + 1, s.vi⟩ := by unfold XS.embed; rw [HTP.out, ← HNL.out, if_neg (fun h => hn1 h.1), if_pos hn2]
                have HS2 : Hid (j + 1 < B.n → (⟨s.st, s.oi, s.oe + 1, s.vi⟩ : XS) = xs cs B.base (j + 1)) := fun _ => by rw [D3.out, hs2]
                have HL : Hid (plvK cs B.base j = plvK cs B.base (j + 1)) := plvK_same hlc (by rw [D1.out, if_neg (fun h => hn1 h.1)])
                clear hs2
                go_wp2_with (first | fail)
                go_roundg (B.n + 1 - (j + 1))
                case measure => have := hk.out; omega
                case rel => exact ⟨j + 1, ⟨s.st, s.oi, s.oe + 1, s.vi⟩, (by first | rfl | (simp only [hn2, hn3]; rfl) | (simp only [hn3]; rfl) | (simp only [hn2]; rfl)), by go_num, rfl, by go_num, by omega, by rw [HST.out, ← HTy.out, ← HL.out]; exact hY, HS2, Nat.le_refl _⟩

              · have b2 : ((s.oi : Int) == 0) = false := by simpa using hn2
                have hs2 : s.embed 0 (some .L) = s := by unfold XS.embed; rw [HTP.out, ← HNL.out, if_neg (fun h => hn1 h.1), if_neg hn2]
                have HS2 : Hid (j + 1 < B.n → s = xs cs B.base (j + 1)) := fun _ => by rw [D3.out, hs2]
                have HL : Hid (plvK cs B.base j = plvK cs B.base (j + 1)) := plvK_same hlc (by rw [D1.out, if_neg (fun h => hn1 h.1)])
                clear hs2
                go_wp2_with (first | fail)
                go_roundg (B.n + 1 - (j + 1))
                case measure => have := hk.out; omega
                case rel => exact ⟨j + 1, s, (by first | rfl | (simp only [hn2, hn3]; rfl) | (simp only [hn3]; rfl) | (simp only [hn2]; rfl)), (by first | rfl | (simp only [hn2, hn3]; rfl) | (simp only [hn3]; rfl) | (simp only [hn2]; rfl)), rfl, by go_num, by omega, by rw [HST.out, ← HTy.out, ← HL.out]; exact hY, HS2, Nat.le_refl _⟩

      · as_aux_lemma =>
          -- PDI
          rw [hcl] at hc
          replace hc : wr.cell? ⟨B.gt, j, none⟩ = some (.int .u64 24) := hc
          have d1 := plv_pdi (base := B.base) hcl
          have d2 := pty_pdi (base := B.base) hcl
          have d3 := xs_pdi (base := B.base) hcl
          rw [← hs] at d1 d3
          have HTy : Hid (ptyK cs B.base j = ptyK cs B.base (j + 1)) := ptyK_same hlc d2
          have HST := Lib.hid hst
          have hok2 := hok.end_
          obtain ⟨e2, r2, hst2, htop2, -, -⟩ := hok2.top
          rw [htop2] at d1
          have HL := Lib.hid (plvK_set hlc d1)
          have HST2 := Lib.hid hst2
          have D3 := Lib.hid d3
          clear hX1 hcl hs hok hok2 hst hst2 htop htop2 d1 d2 d3 hox
          by_cases hn2 : s.oi = 0
          · have b2 : (s.oi : Int) = 0 := by rw [hn2]; rfl
            by_cases hn3 : s.vi = 0
            · have b3 : ((s.vi : Int) == 0) = true := by rw [hn3]; rfl
              have hs2 : s.end_ = s := by unfold XS.end_; rw [if_neg (by omega), if_neg (by omega)]
              have HS2 : Hid (j + 1 < B.n → s = xs cs B.base (j + 1)) := fun _ => by rw [D3.out, hs2]
              have hst3 : e :: r = e2 :: r2 := by rw [← HST.out, ← HST2.out, hs2]
              have hY := hX
              rw [hst3] at hY
              have HST3 : Hid (s.st = e2 :: r2) := by show _ = _; rw [HST.out, hst3]
              clear hs2 hst3
              go_wp2_with (first | fail)
              go_region_held3 (fun w' => w'.cell? ⟨B.b, 5, none⟩ = some (.slice (some ⟨B.gl, 0, none⟩) B.n B.cl))
                (first | exact hY.c5 | exact hY.drew.c5 | exact ((hY.drewN _).setL j _ hlt).c5)
                (first | (go_at_call 125; refine (lastLev_sk hY.drew.sk).mono ?_; rintro x w' ⟨rfl, q, rfl⟩))
              go_wp2_with (first | fail)
              go_roundg (B.n + 1 - (j + 1))
              case measure => have := hk.out; omega
              case rel => exact ⟨j + 1, s, (by first | rfl | (simp only [hn2, hn3]; rfl) | (simp only [hn3]; rfl) | (simp only [hn2]; rfl)), rfl, (by first | rfl | (simp only [hn2, hn3]; rfl) | (simp only [hn3]; rfl) | (simp only [hn2]; rfl)), by go_num, by omega, by rw [HST3.out, ← HTy.out, ← HL.out]; exact (hY.drewN _).setL j _ hlt, HS2, Nat.le_refl _⟩
            · have b3 : ((s.vi : Int) == 0) = false := by simpa using hn3
              have hvp : 0 < s.vi := by omega
              have hs2 : s.end_ = ⟨popIso s.st, s.oi, 0, s.vi - 1⟩ := by unfold XS.end_; rw [if_neg (by omega), if_pos (by omega)]
              have HS2 : Hid (j + 1 < B.n → (⟨e2 :: r2, s.oi, 0, s.vi - 1⟩ : XS) = xs cs B.base (j + 1)) := fun _ => by rw [D3.out, ← HST2.out, hs2]
              have HPI : Hid (popIso (e :: r) = e2 :: r2) := by show _ = _; rw [← HST2.out, hs2, HST.out]
              clear hs2
              have hX5 := hX
              clear hX
              go_wp2_with (first | fail)
              go_loopg [] (e :: r).length (fun k wr => ∃ st', XF B w wr (mt cs) (ptyK cs B.base j) (plvK cs B.base j) st' ∧ Hid (popIso st' = e2 :: r2) ∧ Hid (st'.length ≤ k))
              case atStart => exact ⟨_, hX5, HPI, Nat.le_refl _⟩
              case round =>
                obtain ⟨st', hV, HP, hk2⟩ := hrel
                have HN2 := Lib.hid hn2
                clear hn2 b2 b3
                clear hX5 c0 c1 c2 c3 c4 c5 c6 c7 hlcell hlf htf hc
                match st', hV, HP, hk2 with
                | [], hV, HP, hk2 => have := HP.out; simp [popIso] at this
                | x :: t, hV, HP, hk2 =>
                  by_cases hi : x.iso = true
                  · have HT2 : Hid (t = e2 :: r2) := by show _ = _; rw [← HP.out, popIso, if_pos hi]
                    rw [show (x :: t) = x :: (e2 :: r2) by rw [HT2.out]] at hV
                    clear hk2 HP HT2
                    go_wp2_with (first
                      | (go_at_call 127; refine (lastIso_sk hV.sk).mono ?_; rintro x w' ⟨rfl, q2, rfl⟩)
                      | (go_at_call 128; refine (stkPop_sk (hV.drewN _).sk).mono ?_; rintro x w6 ⟨rfl, hs6, hu6⟩; have hY := (hV.drewN _).stk hs6 hu6; have y5 := hY.c5; have yl := hY.rl.num j (by rw [plvK_length]; exact hlc); have yf := hY.rl.free j))
                    go_region_held3 (fun w' => w'.cell? ⟨B.b, 5, none⟩ = some (.slice (some ⟨B.gl, 0, none⟩) B.n B.cl))
                      (first | exact hY.c5 | exact hY.drew.c5 | exact ((hY.drewN _).setL j _ hlt).c5)
                      (first | (go_at_call 125; refine (lastLev_sk hY.drew.sk).mono ?_; rintro x w' ⟨rfl, q, rfl⟩))
                    go_wp2_with (first | fail)
                    go_roundg (B.n + 1 - (j + 1))
                    case measure => have := hk.out; omega
                    case rel => exact ⟨j + 1, ⟨e2 :: r2, s.oi, 0, s.vi - 1⟩, by first | rfl | (simp only [HN2.out]; rfl), rfl, by go_num, by go_num, by omega, by rw [← HTy.out, ← HL.out]; exact (hY.drewN _).setL j _ hlt, HS2, Nat.le_refl _⟩
                  · have hi0 : x.iso = false := by simpa using hi
                    have HP2 : Hid (popIso t = e2 :: r2) := by show _ = _; rw [← HP.out, popIso, if_neg hi]
                    clear hi
                    go_wp2_with (first
                      | (go_at_call 127; refine (lastIso_sk hV.sk).mono ?_; rintro x w' ⟨rfl, q2, rfl⟩)
                      | (go_at_call 128; refine (stkPop_sk (hV.drewN _).sk).mono ?_; rintro x w6 ⟨rfl, hs6, hu6⟩; have hY := (hV.drewN _).stk hs6 hu6))
                    go_roundg t.length
                    case measure => have := hk2.out; simp at this; omega
                    case rel => exact ⟨t, hY, HP2, Nat.le_refl _⟩
          · have hpo : 0 < s.oi := by omega
            have hs2 : s.end_ = ⟨s.st, s.oi - 1, s.oe, s.vi⟩ := by unfold XS.end_; rw [if_pos (by omega)]
            have HS2 : Hid (j + 1 < B.n → (⟨s.st, s.oi - 1, s.oe, s.vi⟩ : XS) = xs cs B.base (j + 1)) := fun _ => by rw [D3.out, hs2]
            have hst3 : e :: r = e2 :: r2 := by rw [← HST.out, ← HST2.out, hs2]
            have hY := hX
            rw [hst3] at hY
            have HST3 : Hid (s.st = e2 :: r2) := by show _ = _; rw [HST.out, hst3]
            clear hs2 hst3
            go_wp2_with (first | fail)
            go_region_held3 (fun w' => w'.cell? ⟨B.b, 5, none⟩ = some (.slice (some ⟨B.gl, 0, none⟩) B.n B.cl))
              (first | exact hY.c5 | exact hY.drew.c5 | exact ((hY.drewN _).setL j _ hlt).c5)
              (first | (go_at_call 125; refine (lastLev_sk hY.drew.sk).mono ?_; rintro x w' ⟨rfl, q, rfl⟩))
            go_wp2_with (first | fail)
            go_roundg (B.n + 1 - (j + 1))
            case measure => have := hk.out; omega
            case rel => exact ⟨j + 1, ⟨s.st, s.oi - 1, s.oe, s.vi⟩, by go_num, rfl, rfl, by go_num, by omega, by rw [HST3.out, ← HTy.out, ← HL.out]; exact (hY.drewN _).setL j _ hlt, HS2, Nat.le_refl _⟩
      · as_aux_lemma =>
          -- PDF
          rw [hcl] at hc
          replace hc : wr.cell? ⟨B.gt, j, none⟩ = some (.int .u64 20) := hc
          have d1 := plv_pdf (base := B.base) hcl
          have d2 := pty_pdf (base := B.base) hcl
          have d3 := xs_pdf (base := B.base) hcl
          rw [← hs, htop] at d1
          rw [← hs] at d3
          have HL := Lib.hid (plvK_set hlc d1)
          have HTy : Hid (ptyK cs B.base j = ptyK cs B.base (j + 1)) := ptyK_same hlc d2
          have HST := Lib.hid hst
          have HTP := Lib.hid htop
          have D3 := Lib.hid d3
          clear hX1 hcl hs hok hst htop d1 d2 d3 hox
          go_wp2_with (first | fail)
          have hY := hX
          go_region_held3 (fun w' => w'.cell? ⟨B.b, 5, none⟩ = some (.slice (some ⟨B.gl, 0, none⟩) B.n B.cl))
            (first | exact hY.c5 | exact hY.drew.c5 | exact ((hY.drewN _).setL j _ hlt).c5)
            (first | (go_at_call 125; refine (lastLev_sk hY.drew.sk).mono ?_; rintro x w' ⟨rfl, q, rfl⟩))
          have hZ := (hX.drewN (1 + q)).setL j e.lv hlt
          clear c0 c1 c2 c3 c4 c5 c6 c7 hX hY hlcell hlf htf hc
          rw [HL.out, HTy.out] at hZ
          by_cases hn2 : s.oi = 0
          · have b2 : (s.oi : Int) = 0 := by rw [hn2]; rfl
            by_cases hn3 : s.oe = 0
            · have b3 : (s.oe : Int) = 0 := by rw [hn3]; rfl
              by_cases hi : e.iso = true
              · have hs2 : s.pop = s := by unfold XS.pop; rw [if_neg (by omega), if_neg (by omega), if_neg (by rw [HTP.out, hi]; simp)]
                have HS2 : Hid (j + 1 < B.n → s = xs cs B.base (j + 1)) := fun _ => by rw [D3.out, hs2]
                clear hs2
                go_wp2_with (first | (go_at_call 127; refine (lastIso_sk hZ.sk).mono ?_; rintro x w' ⟨rfl, q2, rfl⟩))
                go_roundg (B.n + 1 - (j + 1))
                case measure => have := hk.out; omega
                case rel => exact ⟨j + 1, s, (by first | rfl | (simp only [hn2, hn3]; rfl) | (simp only [hn3]; rfl) | (simp only [hn2]; rfl)), (by first | rfl | (simp only [hn2, hn3]; rfl) | (simp only [hn3]; rfl) | (simp only [hn2]; rfl)), rfl, by go_num, by omega, by rw [HST.out]; exact hZ.drewN _, HS2, Nat.le_refl _⟩
              · have hi0 : e.iso = false := by simpa using hi
                by_cases hln : r = []
                · have hs2 : s.pop = s := by unfold XS.pop; rw [if_neg (by omega), if_neg (by omega), if_neg (by rw [HST.out, hln]; simp)]
                  have HS2 : Hid (j + 1 < B.n → s = xs cs B.base (j + 1)) := fun _ => by rw [D3.out, hs2]
                  have hln2 : (((e :: r).length : Nat) : Int) = 1 := by rw [hln]; rfl
                  clear hs2 hi
                  go_wp2_with (first | (go_at_call 127; refine (lastIso_sk hZ.sk).mono ?_; rintro x w' ⟨rfl, q2, rfl⟩) | (go_at_call 129; refine (depth_sk (hZ.drewN _).sk).mono ?_; rintro x w' ⟨rfl, rfl⟩))
                  go_roundg (B.n + 1 - (j + 1))
                  case measure => have := hk.out; omega
                  case rel => exact ⟨j + 1, s, (by first | rfl | (simp only [hn2, hn3]; rfl) | (simp only [hn3]; rfl) | (simp only [hn2]; rfl)), (by first | rfl | (simp only [hn2, hn3]; rfl) | (simp only [hn3]; rfl) | (simp only [hn2]; rfl)), rfl, by go_num, by omega, by rw [HST.out]; exact hZ.drewN _, HS2, Nat.le_refl _⟩
                · have hrl2 : 0 < r.length := List.length_pos_iff.2 hln
                  have hs2 : s.pop = ⟨r, s.oi, s.oe, s.vi⟩ := by unfold XS.pop; rw [if_neg (by omega), if_neg (by omega), if_pos ⟨by rw [HTP.out, hi0], by rw [HST.out]; simpa using hrl2⟩, HST.out]; rfl
                  have HS2 : Hid (j + 1 < B.n → (⟨r, s.oi, s.oe, s.vi⟩ : XS) = xs cs B.base (j + 1)) := fun _ => by rw [D3.out, hs2]
                  have hln2 : (((e :: r).length : Nat) : Int) = (r.length : Int) + 1 := by simp
                  clear hs2 hi hln
                  go_wp2_with (first | (go_at_call 127; refine (lastIso_sk hZ.sk).mono ?_; rintro x w' ⟨rfl, q2, rfl⟩) | (go_at_call 129; refine (depth_sk (hZ.drewN _).sk).mono ?_; rintro x w' ⟨rfl, rfl⟩) | (go_at_call 128; refine (stkPop_sk (hZ.drewN _).sk).mono ?_; rintro x w6 ⟨rfl, hs6, hu6⟩; have hV := (hZ.drewN _).stk hs6 hu6))
                  go_roundg (B.n + 1 - (j + 1))
                  case measure => have := hk.out; omega
                  case rel => exact ⟨j + 1, ⟨r, s.oi, s.oe, s.vi⟩, (by first | rfl | (simp only [hn2, hn3]; rfl) | (simp only [hn3]; rfl) | (simp only [hn2]; rfl)), (by first | rfl | (simp only [hn2, hn3]; rfl) | (simp only [hn3]; rfl) | (simp only [hn2]; rfl)), rfl, by go_num, by omega, hV, HS2, Nat.le_refl _⟩
            · have hs2 : s.pop = ⟨s.st, s.oi, s.oe - 1, s.vi⟩ := by unfold XS.pop; rw [if_neg (by omega), if_pos (by omega)]
              have HS2 : Hid (j + 1 < B.n → (⟨s.st, s.oi, s.oe - 1, s.vi⟩ : XS) = xs cs B.base (j + 1)) := fun _ => by rw [D3.out, hs2]
              have hpo : 0 < s.oe := by omega
              clear hs2
              go_wp2_with (first | fail)
              go_roundg (B.n + 1 - (j + 1))
              case measure => have := hk.out; omega
              case rel => exact ⟨j + 1, ⟨s.st, s.oi, s.oe - 1, s.vi⟩, (by first | rfl | (simp only [hn2, hn3]; rfl) | (simp only [hn3]; rfl) | (simp only [hn2]; rfl)), by go_num, rfl, by go_num, by omega, by rw [HST.out]; exact hZ, HS2, Nat.le_refl _⟩
          · have hs2 : s.pop = s := by unfold XS.pop; rw [if_pos (by omega)]
            have HS2 : Hid (j + 1 < B.n → s = xs cs B.base (j + 1)) := fun _ => by rw [D3.out, hs2]
            have hpo : 0 < s.oi := by omega
            clear hs2
            go_wp2_with (first | fail)
            go_roundg (B.n + 1 - (j + 1))
            case measure => have := hk.out; omega
            case rel => exact ⟨j + 1, s, rfl, rfl, rfl, by go_num, by omega, by rw [HST.out]; exact hZ, HS2, Nat.le_refl _⟩
      · as_aux_lemma =>
          -- B
          rw [hcl] at hc
          replace hc : wr.cell? ⟨B.gt, j, none⟩ = some (.int .u64 7) := hc
          have d1 := plv_b (base := B.base) hcl
          have d2 := pty_b (base := B.base) hcl
          have hj1 : j + 1 = cs.length := HB.out j hlc hcl
          have HS2 : Hid (j + 1 < B.n → (⟨[], 0, 0, 0⟩ : XS) = xs cs B.base (j + 1)) := fun h => by rw [HN.out] at h; omega
          have HTy : Hid (ptyK cs B.base j = ptyK cs B.base (j + 1)) := ptyK_same hlc d2
          have HL := Lib.hid (plvK_set hlc d1)
          clear hX1 hcl hs hok hst htop d1 d2 hox
          go_wp2_with (first | (go_at_call 130; refine (empty_sk hX.sk).mono ?_; rintro x w6 ⟨rfl, hs6, hu6⟩; have hV := hX.stk hs6 hu6; have v3 := hV.par.cells.c3; have v5 := hV.c5; have vl := hV.rl.num j (by rw [plvK_length]; exact hlc); have vf := hV.rl.free j))
          go_region
          all_goals (try go_wp2)
          all_goals
            go_roundg (B.n + 1 - (j + 1))
            case measure => have := hk.out; omega
            case rel => exact ⟨j + 1, ⟨[], 0, 0, 0⟩, rfl, rfl, rfl, by go_num, by omega, by rw [← HTy.out, ← HL.out]; exact hV.drew.setL j B.base hlt, HS2, Nat.le_refl _⟩
    · obtain rfl : j = B.n := by omega
      rw [HN.out, ptyK_end, plvK_end] at hX1
      go_wp2
      go_end0
      exact ⟨rfl, _, hX1⟩
end Go.Proofs.YtjahmnenfknjgaaGreatDoor
