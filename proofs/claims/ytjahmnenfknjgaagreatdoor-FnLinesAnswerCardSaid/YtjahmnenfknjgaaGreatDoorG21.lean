/- locateBrackets, by its contract. -/
import Derived.Test.YtjahmnenfknjgaaGreatDoorG20
import Derived.Test.YtjahmnenfknjgaaGreatDoorG12
import Derived.Deep.RegionHeld3
set_option linter.unusedVariables false
set_option linter.unusedSimpArgs false
namespace Go.Proofs.YtjahmnenfknjgaaGreatDoor
open Go.RowKit Go.Sort

theorem LF.appC {b lb gt n ct gi ic : Nat} {so : Cl} {w0 w w' : World} {es ps : List (Nat × Nat)} {pv : Value} (h : LF b lb gt n ct gi ic so w0 w es ps pv) (hg : w.grownBy w' pv.ownBlock) : w'.cell? ⟨b, 2, none⟩ = some pv ∧ w'.frozen? ⟨b, 2, none⟩ = false := by
  have hq2 : Row w' b 151 _ := Row.grown h.q hg (by
    intro e
    rcases h.own.2 with ⟨rfl, _⟩ | ⟨g, cap, cur, rfl, _, hgg, _⟩
    · simp [Value.ownBlock] at e
    · simp [Value.ownBlock] at e; subst e
      exact Row.ne_type h.q (Row.of_owns h.own) (by decide) rfl)
  exact ⟨hq2.cell 2 (by simp), hq2.free 2⟩
theorem nth_pick {l : List Int} {ps : List Nat} {i : Nat} (h : i < ps.length) : nth (pick l ps) i = nth l (nat ps i) := by
  simp [nth, pick, nat, h]
theorem two_one (x y : Int) : ∀ u ∈ [Value.int .i64 x, .int .i64 y], u.oneCell' = true := by
  intro u hu
  simp at hu
  rcases hu with rfl | rfl <;> rfl

theorem assert_int (y : Int) (w : World) : (Instr.typeAssert (.iface 3 (.int .i64 y)) 20 3 false).run Tryz.prog w = .ok (.int .i64 y) w := by kernel_rfl

set_option maxHeartbeats 32000000 in
set_option maxRecDepth 100000 in
theorem locate_any (b lb gt n ct gi ic N kc vc : Nat) (kA vA : Option Addr) (so : Cl) (l : List Cl) (pl : List Nat) (ks vs : List Int) (w : World)
    (hF : LF b lb gt n ct gi ic so w w [] [] (.slice none 0 0)) (ht : Row w gt 77 (clsU l)) (hi : Row w gi 3 (nums .i64 (nats pl)))
    (hKV : ∀ W, Upd [b, lb] w W → Rd W kA (nums .u8 ks) ∧ Rd W vA (nums .i32 vs))
    (hn : l.length = n) (hp : pl.length = n) (hk : ks.length = N) (hv : vs.length = N) (hm : n ≤ 2147483647) (hM : N ≤ 2147483647) (hpl : ∀ q, q ∈ pl → q < N)
    (hks : ∀ j, j < N → nth ks j = 0 ∨ nth ks j = 1 ∨ nth ks j = 2) (hvs : ∀ j, j < N → nth ks j ≠ 0 → 0 < nth vs j) (hop : opc (pick (signed ks vs) pl) n ≤ 63) :
    Calls Tryz.prog 114 #[.pointer (some ⟨b, 0, none⟩), .slice kA N kc, .slice vA N vc] w fun e w' => e = .returned (.tuple #[]) ∧ ∃ pv, BQ w' b so lb pv gt n ct gi ic ∧ PS w' pv (prs l (pick (signed ks vs) pl)) ∧ Upd [b, lb] w w' := by
  obtain ⟨br, hbr⟩ : ∃ br, br = pick (signed ks vs) pl := ⟨_, rfl⟩
  have HBR : Hid (∀ i, i < n → nth br i = if nth ks (nat pl i) = 1 then nth vs (nat pl i) else if nth ks (nat pl i) = 2 then - nth vs (nat pl i) else 0) := fun i hi => by
    rw [hbr, nth_pick (by omega), nth_signed (by rw [hk]; exact hpl _ (nat_mem (by omega)))]
  rw [← hbr] at hop ⊢
  have hbt : b ≠ gt := Row.ne_type hF.q ht (by decide)
  have hbi : b ≠ gi := Row.ne_type hF.q hi (by decide)
  have hlt' := hF.ll.out ht (by decide) (by decide)
  have hli' := hF.ll.out hi (by decide) (by decide)
  have HS : Hid (∀ W, Upd [b, lb] w W → Row W gt 77 (clsU l) ∧ Row W gi 3 (nums .i64 (nats pl))) := fun W hW =>
    ⟨ht.upd hW (by simp at hlt' ⊢; omega), hi.upd hW (by simp at hli' ⊢; omega)⟩
  have HPL : Hid (∀ i, i < n → nat pl i < N) := fun i hi => hpl _ (nat_mem (by omega))
  have HMt : Hid (∀ (s i : Nat) (W : World) (v : Bool), s < n → i < n → 0 < nth br s → nth br i < 0 → Upd [b, lb] w W → W.cell? ⟨b, 4, none⟩ = some (.slice (some ⟨gi, 0, none⟩) n ic) → decide (nth br s = - nth br i) = v →
      Calls Tryz.prog 137 #[.pointer (some ⟨b, 0, none⟩), .slice vA N vc, .int .i64 s, .int .i64 i] W fun e w' => e = .returned (.bool v) ∧ Upd [] W w') := by
    intro s i W v hs hi' h1 h2 hW h4 hv'
    refine match_any b gi n ic N vc s i vA pl vs W v h4 (HS.out W hW).2 (hKV W hW).2 hp hv hm hM hs hi' hpl ?_
    rw [← hv']
    have e1 := HBR.out s hs
    have e2 := HBR.out i hi'
    have hzs := HPL.out s hs
    have hzi := HPL.out i hi'
    have hks1 := hks _ hzs
    have hks2 := hks _ hzi
    have p1 := hvs _ hzs
    have p2 := hvs _ hzi
    congr 1
    apply propext
    rcases hks1 with h | h | h
    · rw [h] at e1; simp at e1; omega
    · rw [h] at e1; simp at e1
      rcases hks2 with h' | h' | h'
      · rw [h'] at e2; simp at e2; omega
      · rw [h'] at e2; simp at e2; have := p2 (by omega); omega
      · rw [h'] at e2; simp at e2; rw [e1, e2]; omega
    · rw [h] at e1; simp at e1; have := p1 (by omega); omega
  have HKS : Hid (∀ i, i < n → (nth ks (nat pl i) = 0 ∧ nth br i = 0) ∨ (nth ks (nat pl i) = 1 ∧ 0 < nth br i) ∨ (nth ks (nat pl i) = 2 ∧ nth br i < 0)) := fun i hi' => by
    have e2 := HBR.out i hi'
    have p2 := hvs _ (HPL.out i hi')
    rcases hks _ (HPL.out i hi') with h | h | h <;> rw [h] at e2 p2 ⊢ <;> simp at e2 p2 ⊢ <;> omega
  have HKV := Lib.hid hKV
  have HNl := Lib.hid hn
  have HNp := Lib.hid hp
  have HNk := Lib.hid hk
  have HOP := Lib.hid hop
  have HF0 : Hid (LF b lb gt n ct gi ic so w w [] (prsK (pst l br 0).cl n) (.slice none 0 0)) := by
    have : prsK (pst l br 0).cl n = [] := by
      apply List.eq_nil_iff_forall_not_mem.2
      intro p hp'
      have := (prsK_mem hp').2.1
      rcases pst_val l br 0 p.1 with h | ⟨c, _, _, h⟩
      · omega
      · omega
    show LF _ _ _ _ _ _ _ _ _ _ _ _ _
    rw [this]; exact hF
  have c4 := hF.q.cells.c4
  obtain ⟨i0, hi0, hz0, hz1, hz2⟩ := info_parts info179
  clear hF ht hi hKV hn hp hk hv hpl hks hvs hop hbr hlt' hli'
  go_enter Tryz.func114, Tryz.ntmps114
  go_wp2
  clear c4
  go_loopg [16] (n + 1) (fun k s wr => ∃ (i : Nat) (el : List (Nat × Nat)) (pv : Value), s = .int .i64 i ∧ i ≤ n ∧ LF b lb gt n ct gi ic so w wr el (prsK (pst l br i).cl n) pv ∧ Hid (el.map Prod.snd = (pst l br i).stk) ∧ Hid (n - i ≤ k))
  case atStart => exact ⟨0, [], _, rfl, by omega, HF0.out, rfl, by show _ ≤ _; omega⟩
  case round =>
    clear HF0
    obtain ⟨i, el, pv, rfl, hin, hF, hst, hk⟩ := hrel
    have c1 := hF.q.cells.c1
    have c2 := hF.q.cells.c2
    have c3 := hF.q.cells.c3
    have c4 := hF.q.cells.c4
    by_cases hlt : i < n
    · obtain ⟨hT, hI⟩ := HS.out _ hF.up
      obtain ⟨hK, hV⟩ := HKV.out _ hF.up
      have ci := hI.num i (by rw [nats_length, HNp.out]; exact hlt)
      rw [nth_nats (by rw [HNp.out]; exact hlt)] at ci
      have hz := HPL.out i hlt
      obtain ⟨gk, ok, rfl, ck⟩ := hK.num (nat pl i) (by rw [HNk.out]; exact hz)
      have cc := hT.cls i (by rw [HNl.out]; exact hlt)
      have hks := HKS.out i hlt
      have b10 : ((cat l i).e2 != 10) = !(decide (cat l i = .ON)) := by show (!((cat l i).e2 == Cl.ON.e2)) = _; rw [Cl.e2_beq]
      have SAME : Hid (cat l i ≠ .ON ∨ nth br i = 0 → LF b lb gt n ct gi ic so w wr el (prsK (pst l br (i + 1)).cl n) pv ∧ Hid (el.map Prod.snd = (pst l br (i + 1)).stk)) := fun h => by
        rw [pst_same h]; exact ⟨hF, hst⟩
      have HFF := Lib.hid hF
      obtain ⟨z, hze⟩ : ∃ z, z = nat pl i := ⟨_, rfl⟩
      rw [← hze] at ci hz ck hks
      obtain ⟨kz, hkz⟩ : ∃ kz, kz = nth ks z := ⟨_, rfl⟩
      rw [← hkz] at ck hks
      clear hT hI hK hV hF hze hkz
      by_cases hon : cat l i = .ON
      · rw [decide_eq_true hon] at b10
        simp only [Bool.not_true] at b10
        rcases hks with ⟨rfl, hb0⟩ | ⟨rfl, hb0⟩ | ⟨rfl, hb0⟩
        · clear hon
          go_wp2
          go_roundg (n - (i + 1))
          case measure => have := hk.out; omega
          case rel => exact ⟨i + 1, el, pv, by go_num, by omega, (SAME.out (.inr hb0)).1, (SAME.out (.inr hb0)).2, Nat.le_refl _⟩
        · -- an opening bracket
          have hF := HFF.out
          have hE := pst_open hon hb0
          have hlen : el.length ≤ 62 := by
            have h1 := pst_stk l br i
            rw [← hst.out, List.length_map] at h1
            have h2 := opc_succ br i
            rw [if_pos hb0] at h2
            have h3 := opc_le br (show i + 1 ≤ n by omega)
            have := HOP.out
            omega
          have b63 : ((el.length : Int) == 63) = false := beq_eq_false_iff_ne.2 (by omega)
          have HLP := Lib.hid hF.ll
          have HST : Hid ((i :: el.map Prod.snd) = (pst l br (i + 1)).stk ∧ prsK (pst l br (i + 1)).cl n = prsK (pst l br i).cl n) := by rw [hE, ← hst.out]; exact ⟨rfl, rfl⟩
          clear hon hF hE
          go_wp2_with (first
            | (go_at_call 133; refine (lLen_any lb el _ HLP.out).mono ?_; rintro e w2 ⟨rfl, rfl⟩)
            | (go_at_call 134; refine (lPush_any lb i el _ HLP.out (by omega)).mono ?_; rintro e w2 ⟨rfl, hl2, hu2⟩))
          go_roundg (n - (i + 1))
          case measure => have := hk.out; omega
          case rel => exact ⟨i + 1, (wr.heap.size, i) :: el, pv, by go_num, by omega, by rw [HST.out.2]; exact HFF.out.push hl2 hu2, HST.out.1, Nat.le_refl _⟩
        · -- a closing bracket
          obtain ⟨v, hve⟩ : ∃ v, v = - nth br i := ⟨_, rfl⟩
          have HV := Lib.hid hve
          have HON := Lib.hid hon
          have HB0 := Lib.hid hb0
          have HLL := Lib.hid HFF.out.ll
          clear hon hve hb0
          obtain ⟨F0, hF0⟩ : ∃ F0, F0 = frE el := ⟨_, rfl⟩
          have HFR := lFront_any lb el _ HLL.out
          rw [← hF0] at HFR
          have HF0 := Lib.hid hF0
          clear hF0
          go_wp2_with (go_at_call 135; refine HFR.mono ?_; rintro e w2 ⟨rfl, rfl⟩)
          clear c1 c2 c3 c4 HFR
          go_loopg [8, 9] (el.length + 1) (fun k s8 s9 wr => ∃ (t : Nat), s8 = .int .i64 t ∧ s9 = frE (el.drop t) ∧ t ≤ el.length ∧ LF b lb gt n ct gi ic so w wr el (prsK (pst l br i).cl n) pv ∧ Hid (popTo br v ((el.map Prod.snd).drop t) = popTo br v (el.map Prod.snd)) ∧ Hid (el.length - t ≤ k))
          case atStart => exact ⟨0, rfl, HF0.out, by omega, HFF.out, rfl, by show _ ≤ _; omega⟩
          case round =>
            clear SAME HLL HF0
            obtain ⟨t, rfl, rfl, hte, hG, hpt, hk2⟩ := hrel
            cases he : el.drop t with
            | nil =>
              have hmiss : popTo br v (el.map Prod.snd) = none := by rw [← hpt.out, ← List.map_drop, he]; rfl
              have hE : pst l br (i + 1) = pst l br i := pst_miss HON.out HB0.out (by rw [← HV.out, ← hst.out]; exact hmiss)
              have HE := Lib.hid hE
              have HS2 := Lib.hid (sortP_any hG (prsK_up _ n) (List.Perm.refl _) (by have := prs_count (l := l) (br := br) i n; have := HOP.out; omega))
              have c2 := hG.q.cells.c2
              unfold frE
              clear hE hmiss he hG hpt
              go_wp2_with (go_at_call 139; refine HS2.out.mono ?_; rintro e w3 ⟨rfl, hF3⟩)
              go_roundg (n - (i + 1))
              case measure => have := hk.out; omega
              case rel => exact ⟨i + 1, el, pv, by go_num, by omega, by rw [HE.out]; exact hF3, by rw [HE.out]; exact hst, Nat.le_refl _⟩
            | cons xy r =>
              obtain ⟨x, y⟩ := xy
              obtain ⟨hr, htl, hmap⟩ := map_drop_cons he
              obtain ⟨p', hdl⟩ := DL.drop t hG.ll.dl
              rw [he] at hdl
              have cx := hdl.1.cell 3 (by simp)
              simp only [List.getElem_cons_zero, List.getElem_cons_succ] at cx
              have c1 := hG.q.cells.c1
              have c4 := hG.q.cells.c4
              have hys : y ∈ (pst l br i).stk := by rw [← hst.out]; exact List.mem_of_mem_drop (i := t) (by rw [hmap]; simp)
              have hyo := (pst_ok l br i).op y hys
              have hyn : y < n := by omega
              have hta := assert_int (y : Int)
              have hel : el.length ≤ 63 := by
                have h1 := pst_stk l br i
                rw [← hst.out, List.length_map] at h1
                have h3 := opc_le br (show i ≤ n by omega)
                have := HOP.out
                omega
              have htn : t ≤ 2147483647 := by omega
              unfold frE
              unfold eP
              unfold eV at cx
              obtain ⟨F1, hF1⟩ : ∃ F1, F1 = frE r := ⟨_, rfl⟩
              have HNX : Hid (∀ W, LF b lb gt n ct gi ic so w W el (prsK (pst l br i).cl n) pv → Calls Tryz.prog 136 #[.pointer (some ⟨x, 0, none⟩)] W fun e w' => e = .returned F1 ∧ W = w') := fun W hW => by
                obtain ⟨rv, hroot⟩ := hW.ll.root
                obtain ⟨p'', hdl2⟩ := DL.drop t hW.ll.dl
                rw [he] at hdl2
                rw [hF1]
                exact lNext_any lb p'' x y r W hdl2 hroot
              have HF1 : Hid (F1 = frE (el.drop (t + 1))) := by show _ = _; rw [hF1, hr]
              have HGG := Lib.hid hG
              obtain ⟨u, hu⟩ : ∃ u, u = decide (nth br y = - nth br i) := ⟨_, rfl⟩
              have HM := Lib.hid (HMt.out y i wr u hyn hlt hyo.2.2 HB0.out hG.up c4 hu.symm)
              have HMP := Lib.hid hmap
              have HT := Lib.hid htl
              cases u with
              | false =>
                have hpt2 : Hid (popTo br v ((el.map Prod.snd).drop (t + 1)) = popTo br v (el.map Prod.snd)) := by
                  show _ = _
                  rw [← hpt.out, hmap, popTo_skip (by rw [HV.out]; simpa using hu.symm)]
                clear hr hmap hys hyo hdl hu hG hpt he hF1 hst hyn
                go_wp2_with (first
                  | (go_at_call 137; refine HM.out.mono ?_; rintro e w3 ⟨rfl, hu3⟩; have hG3 := HGG.out.upd0 hu3)
                  | (go_at_call 136; refine (HNX.out _ hG3).mono ?_; rintro e w4 ⟨rfl, rfl⟩))
                go_roundg (el.length - (t + 1))
                case measure => have := hk2.out; omega
                case rel => exact ⟨t + 1, by go_num, HF1.out, by omega, hG3, hpt2, Nat.le_refl _⟩
              | true =>
                have hpop : popTo br v (el.map Prod.snd) = some (y, (el.map Prod.snd).drop (t + 1)) := by
                  rw [← hpt.out, hmap, popTo_hit (by rw [HV.out]; simpa using hu.symm)]
                have hpop2 : popTo br (- nth br i) (pst l br i).stk = some (y, (el.map Prod.snd).drop (t + 1)) := by rw [← HV.out, ← hst.out]; exact hpop
                have HE := Lib.hid (pst_close HON.out HB0.out hpop2)
                have HPM := Lib.hid (close_perm (by rw [HNl.out]; exact hlt) HON.out HB0.out hpop2)
                have hcnt : (prsK (pst l br i).cl n).length ≤ 63 := Nat.le_trans (prs_count i n) HOP.out
                obtain ⟨ps, hps⟩ : ∃ ps, ps = prsK (pst l br i).cl n := ⟨_, rfl⟩
                rw [← hps] at HGG hcnt
                have HPS := Lib.hid hps
                clear hr hmap hys hyo hdl hu hG hpt he hF1 hst hyn hpop hpop2 hps HNX HF1
                go_wp2_with (first
                  | (go_at_call 137; refine HM.out.mono ?_; rintro e w3 ⟨rfl, hu3⟩; have hG3 := HGG.out.upd0 hu3; have c2 := hG3.q.cells.c2)
                  | (at_builtin; go_must (refine wpList_append_own _ rfl (.tmp 87) (.tmp 91) 149 rfl w.heap.size 179 i0 (.agg #[.int .i64 0, .int .i64 0]) 2 16 Tryz.underlying149 hi0 hz0 hz1 hz2 rfl (by decide) pv ps.length _ rfl (hG3.own.alloc _) ⟨w3.heap.size, 0, none⟩ 1 1 [.int .i64 y, .int .i64 i] rfl rfl (two_at _ _ rfl _ _ _) (two_one _ _) (by unfold maxLen; omega) (by omega) (by have := hG3.up.size; simp; omega) ?_); intro v' w5 hown5 hgrow5 _; have hG4 := hG3.upd0 ((Upd.refl [] w3).alloc (.cells #[.int .i64 y, .int .i64 i] 179)); obtain ⟨d2, f2⟩ := hG4.appC hgrow5; obtain ⟨g5, cp5, rfl, _⟩ := owns_slice' hown5 (by omega)))
                have hG6 := hG4.app hown5 hgrow5
                have HQ : Hid ((ps ++ [(y, i)]).Perm (prsK (pst l br (i + 1)).cl n)) := by
                  have := HPM.out
                  rw [HNl.out] at this
                  show List.Perm _ _
                  rw [HPS.out]; exact this
                have HL1 : Hid ((ps ++ [(y, i)]).length ≤ 255) := by show _ ≤ _; rw [List.length_append]; simp; omega
                obtain ⟨V, hV⟩ : ∃ V, V = Value.slice (some ⟨g5, 0, none⟩) (ps.length + 1) cp5 := ⟨_, rfl⟩
                rw [← hV] at hG6
                rw [← hV]
                generalize w5.setCell ⟨b, 2, none⟩ V = w6 at hG6 ⊢
                clear hG4 hown5 hgrow5 d2 f2 hG3 hu3 c2 c1 c4 cx HGG HM hV HPM HPS
                go_loopg [8] (t + 3) (fun k s8 wr => ∃ (c : Nat), s8 = .int .i64 c ∧ c ≤ t + 1 ∧ LF b lb gt n ct gi ic so w wr (el.drop (t + 1 - c)) (ps ++ [(y, i)]) V ∧ Hid (c ≤ k))
                case atStart => exact ⟨t + 1, by go_num, Nat.le_refl _, by rw [Nat.sub_self]; exact hG6, by show _ ≤ _; omega⟩
                case round =>
                  clear hG6
                  obtain ⟨c, rfl, hct, hG, hk3⟩ := hrel
                  by_cases hc0 : c = 0
                  · subst hc0
                    have HS2 := Lib.hid (sortP_any hG (prsK_up (pst l br (i + 1)).cl n) HQ.out HL1.out)
                    have c2 := hG.q.cells.c2
                    clear hG
                    go_wp2_with (go_at_call 139; refine HS2.out.mono ?_; rintro e w7 ⟨rfl, hF7⟩)
                    go_roundg (n - (i + 1))
                    case measure => have := hk.out; omega
                    case rel => exact ⟨i + 1, el.drop (t + 1), V, by go_num, by omega, hF7, by show _ = _; rw [HE.out, List.map_drop], Nat.le_refl _⟩
                  · have hlt2 : t + 1 - c < el.length := by omega
                    obtain ⟨xy, hxy⟩ : ∃ xy, xy = el[t + 1 - c] := ⟨_, rfl⟩
                    obtain ⟨x', y'⟩ := xy
                    have hdr := List.drop_eq_getElem_cons hlt2
                    rw [← hxy] at hdr
                    obtain ⟨c', hc'⟩ : ∃ c', c' = c - 1 := ⟨_, rfl⟩
                    have ec : (c : Int) - 1 = c' := by omega
                    have hpos : (c : Int) > 0 := by omega
                    have hct' : c' ≤ t + 1 := by omega
                    have HC := Lib.hid hc'
                    obtain ⟨r', hr'⟩ : ∃ r', r' = el.drop (t + 1 - c + 1) := ⟨_, rfl⟩
                    rw [← hr'] at hdr
                    have HRR : Hid (el.drop (t + 1 - c') = r') := by show _ = _; rw [hr']; congr 1; omega
                    rw [hdr] at hG
                    have hrl : r'.length ≤ 4611686018427387904 := by rw [hr', List.length_drop]; omega
                    have HGH := Lib.hid hG
                    have c1 := hG.q.cells.c1
                    clear hdr hxy hr' hc' hc0 hlt2 hG
                    go_wp2
                    go_region_held3 (fun w' => w'.cell? ⟨b, 1, none⟩ = some (.pointer (some ⟨lb, 0, none⟩)))
                      (first | exact c1 | exact d1)
                      (first
                        | (go_at_call 135; refine (lFront_any lb ((x', y') :: r') _ (by first | exact HGH.out.ll | exact HGH.out.ll.upd0 (Upd.refl _ _).drew)).mono ?_; rintro e w7 ⟨rfl, rfl⟩)
                        | (go_at_call 138; refine (lRemove_any lb x' y' r' _ (HGH.out.ll.upd0 (Upd.refl [] _).drew) hrl).mono ?_; rintro e w8 ⟨rfl, hl8, hu8⟩; have hG8 := (HGH.out.upd0 (Upd.refl [] _).drew).rem hl8 hu8; have d1 := hG8.q.cells.c1))
                    all_goals (try go_wp2)
                    go_roundg c'
                    case measure => have := hk3.out; have := HC.out; omega
                    case rel => exact ⟨c', rfl, hct', by rw [HRR.out]; exact hG8, Nat.le_refl _⟩
      · rw [decide_eq_false hon] at b10
        simp only [Bool.not_false] at b10
        have SAM := Lib.hid (SAME.out (.inl hon))
        clear SAME hon
        rcases hks with ⟨rfl, hb0⟩ | ⟨rfl, hb0⟩ | ⟨rfl, hb0⟩
        all_goals
          clear hb0
          go_wp2
          go_roundg (n - (i + 1))
          case measure => have := hk.out; omega
          case rel => exact ⟨i + 1, el, pv, by go_num, by omega, SAM.out.1, SAM.out.2, Nat.le_refl _⟩
    · obtain rfl : i = n := by omega
      have HE : Hid (prs l br = prsK (pst l br i).cl i) := by show prsOf _ _ = _; rw [HNl.out]; rfl
      go_wp2
      go_end0
      exact ⟨rfl, pv, hF.q, by rw [HE.out]; exact hF.ps, hF.up⟩
end Go.Proofs.YtjahmnenfknjgaaGreatDoor
namespace Go.Proofs.YtjahmnenfknjgaaGreatDoor
open Go.RowKit Go.Sort

theorem pst_clv (l : List Cl) (br : List Int) : ∀ i q, nth (pst l br i).cl q = 0 ∨ nth br (nth (pst l br i).cl q).toNat < 0
  | 0, q => by
    rcases pst_val l br 0 q with h | ⟨c, _, _, h⟩
    · exact .inl h
    · omega
  | i + 1, q => by
    have ih := pst_clv l br i q
    show nth (pstep l br (pst l br i) i).cl q = 0 ∨ nth br (nth (pstep l br (pst l br i) i).cl q).toNat < 0
    unfold pstep
    split
    · split
      · exact ih
      · split
        · rename_i hb
          split
          · rename_i a r hp
            by_cases e : a = q
            · subst e
              by_cases hl : a < (pst l br i).cl.length
              · right; rw [nth_set_self hl]; simpa using hb
              · rw [List.set_eq_of_length_le (by omega)]; exact ih
            · simp only [nth_set_ne e]; exact ih
          · exact ih
        · exact ih
    · exact ih
theorem prs_mem {l : List Cl} {br : List Int} {p : Nat × Nat} (h : p ∈ prs l br) : p.1 < p.2 ∧ p.2 < l.length ∧ nth br p.2 < 0 := by
  have hm := prsK_mem (n := l.length) h
  rcases pst_val l br l.length p.1 with h1 | ⟨c, h1, h2, h3⟩
  · omega
  · rcases pst_clv l br l.length p.1 with h4 | h4
    · omega
    · rw [← hm.2.2] at h4
      have : p.2 = c := by rw [hm.2.2, h1]; simp
      exact ⟨by omega, by omega, h4⟩

set_option maxHeartbeats 32000000 in
set_option maxRecDepth 100000 in
theorem pairB_any (q b gt n ct gi ic g0 N k0 kc vc : Nat) (kA vA : Option Addr) (rl t' l' m' s' : Value) (lvp lv : Int) (so eo : Cl) (l cs : List Cl) (pl : List Nat) (ks vs : List Int) (w : World)
    (hs : Sq w q (.pointer (some ⟨b, 0, none⟩)) (.slice (some ⟨gi, 0, none⟩) n ic) (.slice (some ⟨gt, 0, none⟩) n ct) rl lv so eo)
    (hp : Par w b (.slice (some ⟨g0, 0, none⟩) N k0) (.slice kA N kc) (.slice vA N vc) lvp t' l' m' s')
    (ht : Row w gt 77 (clsU l)) (hi : Row w gi 3 (nums .i64 (nats pl))) (h0 : Row w g0 77 (clsU cs)) (hk : Rd w kA (nums .u8 ks)) (hv : Rd w vA (nums .i32 vs)) (hne : g0 ≠ gt)
    (hn : l.length = n) (hpn : pl.length = n) (hc : cs.length = N) (hkn : ks.length = N) (hvn : vs.length = N) (hm : n ≤ 2147483647) (hM : N ≤ 2147483647) (hpl : ∀ q, q ∈ pl → q < N)
    (hks : ∀ j, j < N → nth ks j = 0 ∨ nth ks j = 1 ∨ nth ks j = 2) (hvs : ∀ j, j < N → nth ks j ≠ 0 → 0 < nth vs j) (hmk : ∀ j, j < N → nth ks j ≠ 0 → cat cs j ≠ .NSM) (hop : opc (pick (signed ks vs) pl) n ≤ 63)
    (hl : AllC isN l) (hlv0 : 0 ≤ lv) (hlv1 : lv ≤ 127) (hso : so = .L ∨ so = .R) :
    Calls Tryz.prog 86 #[.pointer (some ⟨q, 0, none⟩)] w fun e w' => e = .returned (.tuple #[]) ∧ Row w' gt 77 (clsU (brS l (cIni cs pl) (pick (signed ks vs) pl) lv so)) ∧ Upd [gt] w w' := by
  have c0 := hs.cells.c0
  have c1 := hs.cells.c1
  have c2 := hs.cells.c2
  have c4 := hs.cells.c4
  have c5 := hs.cells.c5
  have HSQ := Lib.hid hs
  have HPA := Lib.hid hp
  obtain ⟨br, hbr⟩ : ∃ br, br = pick (signed ks vs) pl := ⟨_, rfl⟩
  have HNA : Hid (Calls Tryz.prog 113 #[] w.drew fun e w' => e = .returned (.pointer (some ⟨w.heap.size, 0, none⟩)) ∧ LL w' w.heap.size [] ∧ Upd [] w w') :=
    (lNew_any w.drew).mono fun _ _ ⟨a1, a2, a3⟩ => ⟨a1, a2, ((Upd.refl [] w).drew).trans a3⟩
  have HNB : Hid (Calls Tryz.prog 113 #[] (w.alloc (.cells #[.int .u64 0, .pointer none, .slice none 0 0, .slice none 0 0, .slice none 0 0] 151)).drew fun e w' => e = .returned (.pointer (some ⟨w.heap.size + 1, 0, none⟩)) ∧ LL w' (w.heap.size + 1) [] ∧ Upd [] (w.alloc (.cells #[.int .u64 0, .pointer none, .slice none 0 0, .slice none 0 0, .slice none 0 0] 151)) w') := by
    have h := lNew_any (w.alloc (.cells #[.int .u64 0, .pointer none, .slice none 0 0, .slice none 0 0, .slice none 0 0] 151)).drew
    have hz : (w.alloc (.cells #[.int .u64 0, .pointer none, .slice none 0 0, .slice none 0 0, .slice none 0 0] 151)).drew.heap.size = w.heap.size + 1 := by simp
    rw [hz] at h
    exact h.mono fun _ _ ⟨a1, a2, a3⟩ => ⟨a1, a2, ((Upd.refl [] _).drew).trans a3⟩
  have hb := low_bit hlv0 hlv1
  have e5 : w.drew.cell? ⟨q, 5, none⟩ = some (.int .u64 so.e2) := c5
  have e2 : w.drew.cell? ⟨q, 2, none⟩ = some (.slice (some ⟨gt, 0, none⟩) n ct) := c2
  have e1 : w.drew.cell? ⟨q, 1, none⟩ = some (.slice (some ⟨gi, 0, none⟩) n ic) := c1
  have a5 : (w.alloc (.cells #[.int .u64 0, .pointer none, .slice none 0 0, .slice none 0 0, .slice none 0 0] 151)).drew.cell? ⟨q, 5, none⟩ = some (.int .u64 so.e2) := cellA c5 _
  have a2 : (w.alloc (.cells #[.int .u64 0, .pointer none, .slice none 0 0, .slice none 0 0, .slice none 0 0] 151)).drew.cell? ⟨q, 2, none⟩ = some (.slice (some ⟨gt, 0, none⟩) n ct) := cellA c2 _
  have a1 : (w.alloc (.cells #[.int .u64 0, .pointer none, .slice none 0 0, .slice none 0 0, .slice none 0 0] 151)).drew.cell? ⟨q, 1, none⟩ = some (.slice (some ⟨gi, 0, none⟩) n ic) := cellA c1 _
  have hqw : q ≠ w.heap.size := by have := Row.lt hs; omega
  go_enter Tryz.func86, Tryz.ntmps86
  go_wp2_with fail
  go_region_held3 (fun w' => w'.cell? ⟨q, 5, none⟩ = some (.int .u64 so.e2) ∧ w'.cell? ⟨q, 2, none⟩ = some (.slice (some ⟨gt, 0, none⟩) n ct) ∧ w'.cell? ⟨q, 1, none⟩ = some (.slice (some ⟨gi, 0, none⟩) n ic))
    (first | with_reducible exact ⟨e5, e2, e1⟩ | with_reducible exact ⟨d5, d2, d1⟩ | with_reducible exact ⟨a5, a2, a1⟩ | with_reducible exact ⟨cellA d5 _, cellA d2 _, cellA d1 _⟩ | with_reducible exact ⟨s5, s2, s1⟩)
    (first
      | (go_at_call 113; with_reducible refine HNA.out.mono ?_; rintro e w1 ⟨rfl, hl1, hu1⟩; have hs1 := HSQ.out.upd hu1 (by simp); have d5 := hs1.cells.c5; have d2 := hs1.cells.c2; have d1 := hs1.cells.c1)
      | (go_at_call 113; with_reducible refine HNB.out.mono ?_; rintro e w1 ⟨rfl, hl1, hu1⟩; have hs1 := (HSQ.out.upd ((Upd.refl [] w).alloc _) (by simp)).upd hu1 (by simp); have d5 := hs1.cells.c5; have d2 := hs1.cells.c2; have d1 := hs1.cells.c1; have hz := (Row.new w 151 [.int .u64 0, .pointer none, .slice none 0 0, .slice none 0 0, .slice none 0 0]).upd hu1 (by simp); have z0 := hz.cell 0 (by simp); have z1 := hz.cell 1 (by simp); have z2 := hz.cell 2 (by simp); have z3 := hz.cell 3 (by simp); have z4 := hz.cell 4 (by simp); have y0 := hz.free 0; have y1 := hz.free 1; have y2 := hz.free 2; have y3 := hz.free 3; have y4 := hz.free 4; simp only [List.getElem_cons_zero, List.getElem_cons_succ] at z0 z1 z2 z3 z4; have hup : Upd [w.heap.size] w1 (((((w1.setCell ⟨w.heap.size, 0, none⟩ (.int .u64 so.e2)).setCell ⟨w.heap.size, 1, none⟩ (.pointer (some ⟨w.heap.size + 1, 0, none⟩))).setCell ⟨w.heap.size, 2, none⟩ (.slice none 0 0)).setCell ⟨w.heap.size, 3, none⟩ (.slice (some ⟨gt, 0, none⟩) n ct)).setCell ⟨w.heap.size, 4, none⟩ (.slice (some ⟨gi, 0, none⟩) n ic)) := (((((Upd.refl [w.heap.size] w1).setCell (p := ⟨w.heap.size, 0, none⟩) (.inl (by simp)) (.int .u64 so.e2)).setCell (p := ⟨w.heap.size, 1, none⟩) (.inl (by simp)) (.pointer (some ⟨w.heap.size + 1, 0, none⟩))).setCell (p := ⟨w.heap.size, 2, none⟩) (.inl (by simp)) (.slice none 0 0)).setCell (p := ⟨w.heap.size, 3, none⟩) (.inl (by simp)) (.slice (some ⟨gt, 0, none⟩) n ct)).setCell (p := ⟨w.heap.size, 4, none⟩) (.inl (by simp)) (.slice (some ⟨gi, 0, none⟩) n ic); have s5 := hup.cell d5 (by simpa using hqw); have s2 := hup.cell d2 (by simpa using hqw); have s1 := hup.cell d1 (by simpa using hqw)))
  · have F : BQ (w1.alloc (.cells #[.int .u64 so.e2, .pointer (some ⟨w.heap.size, 0, none⟩), .slice none 0 0, .slice (some ⟨gt, 0, none⟩) n ct, .slice (some ⟨gi, 0, none⟩) n ic] 151)) w1.heap.size so w.heap.size (.slice none 0 0) gt n ct gi ic ∧
        LL (w1.alloc (.cells #[.int .u64 so.e2, .pointer (some ⟨w.heap.size, 0, none⟩), .slice none 0 0, .slice (some ⟨gt, 0, none⟩) n ct, .slice (some ⟨gi, 0, none⟩) n ic] 151)) w.heap.size [] ∧
        Upd [] w (w1.alloc (.cells #[.int .u64 so.e2, .pointer (some ⟨w.heap.size, 0, none⟩), .slice none 0 0, .slice (some ⟨gt, 0, none⟩) n ct, .slice (some ⟨gi, 0, none⟩) n ic] 151)) ∧ w.heap.size ≤ w1.heap.size ∧ w.heap.size ≤ w.heap.size :=
      ⟨Row.new w1 151 [.int .u64 so.e2, eP w.heap.size, .slice none 0 0, .slice (some ⟨gt, 0, none⟩) n ct, .slice (some ⟨gi, 0, none⟩) n ic], hl1.upd0 ((Upd.refl _ _).alloc _), hu1.then ((Upd.refl _ _).alloc _), hu1.size, Nat.le_refl _⟩
    obtain ⟨pb, hpb⟩ : ∃ pb, pb = w1.heap.size := ⟨_, rfl⟩
    obtain ⟨lb, hlb⟩ : ∃ lb, lb = w.heap.size := ⟨_, rfl⟩
    obtain ⟨W, hW⟩ : ∃ W, W = w1.alloc (.cells #[.int .u64 so.e2, .pointer (some ⟨w.heap.size, 0, none⟩), .slice none 0 0, .slice (some ⟨gt, 0, none⟩) n ct, .slice (some ⟨gi, 0, none⟩) n ic] 151) := ⟨_, rfl⟩
    rw [← hW] at F ⊢
    rw [← hpb] at F ⊢
    clear hW
    have F2 : BQ W pb so lb (.slice none 0 0) gt n ct gi ic ∧ LL W lb [] ∧ Upd [] w W ∧ w.heap.size ≤ pb ∧ w.heap.size ≤ lb := by rw [hlb]; exact F
    rw [← hlb]
    clear F hpb hlb d5 d2 d1 hs1 hl1 hu1
    obtain ⟨fq, fl, fu, hpb, hlb⟩ := F2
    clear c0 c1 c2 c4 c5 e5 e2 e1 a5 a2 a1 HNA HNB
    have hsW := HSQ.out.upd fu (by simp)
    have c4 := hsW.cells.c4
    have hwLR := dirOf_strong lv
    have hqgt : q ≠ gt := Row.ne_type hs ht (by decide)
    have HB : Hid (∀ W', Upd [pb, lb] W W' → Row W' gt 77 (clsU l) ∧ Row W' gi 3 (nums .i64 (nats pl)) ∧ Row W' g0 77 (clsU cs) ∧ Sq W' q (.pointer (some ⟨b, 0, none⟩)) (.slice (some ⟨gi, 0, none⟩) n ic) (.slice (some ⟨gt, 0, none⟩) n ct) rl lv so eo ∧
        Par W' b (.slice (some ⟨g0, 0, none⟩) N k0) (.slice kA N kc) (.slice vA N vc) lvp t' l' m' s' ∧ Rd W' kA (nums .u8 ks) ∧ Rd W' vA (nums .i32 vs) ∧ Upd [] w W') := fun W' hW' => by
      have hu : Upd [] w W' := fu.step hW' fun t ht => .inr (by simp at ht; rcases ht with rfl | rfl <;> omega)
      exact ⟨ht.upd hu (by simp), hi.upd hu (by simp), h0.upd hu (by simp), hs.upd hu (by simp), Par.upd hp hu (by simp), hk.keep hu, hv.keep hu, hu⟩
    have LOC : Hid (Calls Tryz.prog 114 #[.pointer (some ⟨pb, 0, none⟩), .slice kA N kc, .slice vA N vc] W.drew fun e w' => e = .returned (.tuple #[]) ∧ ∃ pv, BQ w' pb so lb pv gt n ct gi ic ∧ PS w' pv (prs l br) ∧ Upd [pb, lb] W w') := by
      obtain ⟨x1, x2, x3, x4, x5, x6, x7, x8⟩ := HB.out W (Upd.refl _ _)
      have h := locate_any pb lb gt n ct gi ic N kc vc kA vA so l pl ks vs W.drew ⟨fq.upd (Upd.refl [] W).drew (by simp), fl.upd0 (Upd.refl [] W).drew, by simp, ⟨rfl, .inl ⟨rfl, rfl⟩⟩, Upd.refl _ _⟩ (x1.drew) (x2.drew)
        (fun W2 hW2 => by obtain ⟨_, _, _, _, _, y6, y7, _⟩ := HB.out W2 (((Upd.refl [pb, lb] W).drew).trans hW2); exact ⟨y6, y7⟩) hn hpn hkn hvn hm hM hpl hks hvs hop
      rw [← hbr] at h
      exact h.mono fun _ _ ⟨a1, pv, a2, a3, a4⟩ => ⟨a1, pv, a2, a3, ((Upd.refl [pb, lb] W).drew).trans a4⟩
    have RES : Hid (∀ W' pv, BQ W' pb so lb pv gt n ct gi ic → PS W' pv (prs l br) → Upd [pb, lb] W W' → Calls Tryz.prog 115 #[.pointer (some ⟨pb, 0, none⟩), .int .u64 (dirOf lv).e2, .slice (some ⟨g0, 0, none⟩) N k0] W' fun e w' => e = .returned (.tuple #[]) ∧ Row w' gt 77 (clsU (brS l (cIni cs pl) br lv so)) ∧ Upd [gt] w w') := fun W' pv hq' hps hW' => by
      obtain ⟨x1, x2, x3, x4, x5, x6, x7, x8⟩ := HB.out W' hW'
      refine (resolveB_any pb lb gt n ct gi ic g0 N k0 pv so (dirOf lv) l cs pl (prs l br) W' hq' x1 x2 x3 hps hn hpn hc hm hM ?_ ?_ hpl hne hl hwLR hso).mono fun _ _ ⟨a1, a2, a3⟩ => ⟨a1, a2, (x8.mono (by simp)).trans a3⟩
      · have := prs_count (l := l) (br := br) l.length l.length
        have e : (prs l br).length ≤ l.length := prsK_le _ _
        omega
      · intro p hpm
        obtain ⟨m1, m2, m3⟩ := prs_mem hpm
        refine ⟨m1, by omega, ?_⟩
        have hpz := hpl _ (nat_mem (show p.2 < pl.length by omega))
        rw [cat_cIni (by omega)]
        refine hmk _ hpz ?_
        rw [hbr, nth_pick (by omega), nth_signed (by rw [hkn]; exact hpz)] at m3
        intro hz0
        rw [hz0] at m3
        simp at m3
    have HBR2 := Lib.hid hbr
    clear hs hp ht hi h0 hk hv hn hpn hc hkn hvn hpl hks hvs hmk hop hbr fq fl hl hso hwLR HPA hsW
    by_cases h1 : lv % 2 = 1
    · have hd : Cl.e2 (dirOf lv) = 1 := by unfold dirOf; rw [if_pos h1]; rfl
      have bm : (lv % 2 != 0) = true := by rw [h1]; rfl
      rw [hd] at RES
      clear h1 hd
      go_wp2_with fail
      obtain ⟨x1, x2, x3, x4, x5, x6, x7, x8⟩ := HB.out W (Upd.refl _ _)
      have k0' := x4.cells.c0
      have k1 := x5.cells.c1
      have k2 := x5.cells.c2
      clear x1 x2 x3 x4 x5 x6 x7 x8
      go_region_held3 (fun w' => w'.cell? ⟨q, 0, none⟩ = some (.pointer (some ⟨b, 0, none⟩)) ∧ w'.cell? ⟨b, 1, none⟩ = some (.slice kA N kc) ∧ w'.cell? ⟨b, 2, none⟩ = some (.slice vA N vc))
        (first | exact ⟨k0', k1, k2⟩ | exact ⟨m0, m1, m2⟩)
        (first | (go_at_call 114; refine LOC.out.mono ?_; rintro e w3 ⟨rfl, pv, hq3, hps3, hu3⟩; obtain ⟨y1, y2, y3, y4, y5, y6, y7, y8⟩ := HB.out _ hu3; have m0 := y4.cells.c0; have m1 := y5.cells.c1; have m2 := y5.cells.c2; have m5 := y5.cells.c0))
      all_goals
        go_wp2_with (go_at_call 115; refine (RES.out _ _ hq3 hps3 hu3).mono ?_; rintro e w4 ⟨rfl, hr4, hu4⟩)
        go_end0
        exact ⟨rfl, by rw [← HBR2.out]; exact hr4, hu4⟩
    · have hd : Cl.e2 (dirOf lv) = 0 := by unfold dirOf; rw [if_neg h1]; rfl
      have bm : (lv % 2 != 0) = false := by have : lv % 2 = 0 := by omega
                                            rw [this]; rfl
      rw [hd] at RES
      clear h1 hd
      go_wp2_with fail
      obtain ⟨x1, x2, x3, x4, x5, x6, x7, x8⟩ := HB.out W (Upd.refl _ _)
      have k0' := x4.cells.c0
      have k1 := x5.cells.c1
      have k2 := x5.cells.c2
      clear x1 x2 x3 x4 x5 x6 x7 x8
      go_region_held3 (fun w' => w'.cell? ⟨q, 0, none⟩ = some (.pointer (some ⟨b, 0, none⟩)) ∧ w'.cell? ⟨b, 1, none⟩ = some (.slice kA N kc) ∧ w'.cell? ⟨b, 2, none⟩ = some (.slice vA N vc))
        (first | exact ⟨k0', k1, k2⟩ | exact ⟨m0, m1, m2⟩)
        (first | (go_at_call 114; refine LOC.out.mono ?_; rintro e w3 ⟨rfl, pv, hq3, hps3, hu3⟩; obtain ⟨y1, y2, y3, y4, y5, y6, y7, y8⟩ := HB.out _ hu3; have m0 := y4.cells.c0; have m1 := y5.cells.c1; have m2 := y5.cells.c2; have m5 := y5.cells.c0))
      all_goals
        go_wp2_with (go_at_call 115; refine (RES.out _ _ hq3 hps3 hu3).mono ?_; rintro e w4 ⟨rfl, hr4, hu4⟩)
        go_end0
        exact ⟨rfl, by rw [← HBR2.out]; exact hr4, hu4⟩
  · have hQ := ((((hz.set 0 (.int .u64 so.e2) (by simp)).set 1 (.pointer (some ⟨w.heap.size + 1, 0, none⟩)) (by simp)).set 2 (.slice none 0 0) (by simp)).set 3 (.slice (some ⟨gt, 0, none⟩) n ct) (by simp)).set 4 (.slice (some ⟨gi, 0, none⟩) n ic) (by simp)
    have hLn : w.heap.size + 1 ∉ [w.heap.size] := by simp
    have F : BQ (((((w1.setCell ⟨w.heap.size, 0, none⟩ (.int .u64 so.e2)).setCell ⟨w.heap.size, 1, none⟩ (.pointer (some ⟨w.heap.size + 1, 0, none⟩))).setCell ⟨w.heap.size, 2, none⟩ (.slice none 0 0)).setCell ⟨w.heap.size, 3, none⟩ (.slice (some ⟨gt, 0, none⟩) n ct)).setCell ⟨w.heap.size, 4, none⟩ (.slice (some ⟨gi, 0, none⟩) n ic)) w.heap.size so (w.heap.size + 1) (.slice none 0 0) gt n ct gi ic ∧ LL (((((w1.setCell ⟨w.heap.size, 0, none⟩ (.int .u64 so.e2)).setCell ⟨w.heap.size, 1, none⟩ (.pointer (some ⟨w.heap.size + 1, 0, none⟩))).setCell ⟨w.heap.size, 2, none⟩ (.slice none 0 0)).setCell ⟨w.heap.size, 3, none⟩ (.slice (some ⟨gt, 0, none⟩) n ct)).setCell ⟨w.heap.size, 4, none⟩ (.slice (some ⟨gi, 0, none⟩) n ic)) (w.heap.size + 1) [] ∧ Upd [] w (((((w1.setCell ⟨w.heap.size, 0, none⟩ (.int .u64 so.e2)).setCell ⟨w.heap.size, 1, none⟩ (.pointer (some ⟨w.heap.size + 1, 0, none⟩))).setCell ⟨w.heap.size, 2, none⟩ (.slice none 0 0)).setCell ⟨w.heap.size, 3, none⟩ (.slice (some ⟨gt, 0, none⟩) n ct)).setCell ⟨w.heap.size, 4, none⟩ (.slice (some ⟨gi, 0, none⟩) n ic)) ∧ w.heap.size ≤ w.heap.size ∧ w.heap.size ≤ w.heap.size + 1 :=
      ⟨hQ, hl1.upd hup hLn (by simp), (((Upd.refl [] w).alloc _).trans hu1).step hup (fun t ht => .inr (by simp at ht; omega)), Nat.le_refl _, by omega⟩
    obtain ⟨W, hW⟩ : ∃ W, W = (((((w1.setCell ⟨w.heap.size, 0, none⟩ (.int .u64 so.e2)).setCell ⟨w.heap.size, 1, none⟩ (.pointer (some ⟨w.heap.size + 1, 0, none⟩))).setCell ⟨w.heap.size, 2, none⟩ (.slice none 0 0)).setCell ⟨w.heap.size, 3, none⟩ (.slice (some ⟨gt, 0, none⟩) n ct)).setCell ⟨w.heap.size, 4, none⟩ (.slice (some ⟨gi, 0, none⟩) n ic)) := ⟨_, rfl⟩
    rw [← hW] at F ⊢
    clear hW
    obtain ⟨lb, hlb⟩ : ∃ lb, lb = w.heap.size + 1 := ⟨_, rfl⟩
    obtain ⟨pb, hpb⟩ : ∃ pb, pb = w.heap.size := ⟨_, rfl⟩
    have F2 : BQ W pb so lb (.slice none 0 0) gt n ct gi ic ∧ LL W lb [] ∧ Upd [] w W ∧ w.heap.size ≤ pb ∧ w.heap.size ≤ lb := by rw [hlb, hpb]; exact F
    rw [← hlb, ← hpb]
    clear F hpb hlb d5 d2 d1 hs1 hl1 hu1 hQ hLn hz z0 z1 z2 z3 z4 y0 y1 y2 y3 y4 hup s5 s2 s1
    obtain ⟨fq, fl, fu, hpb, hlb⟩ := F2
    clear c0 c1 c2 c4 c5 e5 e2 e1 a5 a2 a1 HNA HNB
    have hsW := HSQ.out.upd fu (by simp)
    have c4 := hsW.cells.c4
    have hwLR := dirOf_strong lv
    have hqgt : q ≠ gt := Row.ne_type hs ht (by decide)
    have HB : Hid (∀ W', Upd [pb, lb] W W' → Row W' gt 77 (clsU l) ∧ Row W' gi 3 (nums .i64 (nats pl)) ∧ Row W' g0 77 (clsU cs) ∧ Sq W' q (.pointer (some ⟨b, 0, none⟩)) (.slice (some ⟨gi, 0, none⟩) n ic) (.slice (some ⟨gt, 0, none⟩) n ct) rl lv so eo ∧
        Par W' b (.slice (some ⟨g0, 0, none⟩) N k0) (.slice kA N kc) (.slice vA N vc) lvp t' l' m' s' ∧ Rd W' kA (nums .u8 ks) ∧ Rd W' vA (nums .i32 vs) ∧ Upd [] w W') := fun W' hW' => by
      have hu : Upd [] w W' := fu.step hW' fun t ht => .inr (by simp at ht; rcases ht with rfl | rfl <;> omega)
      exact ⟨ht.upd hu (by simp), hi.upd hu (by simp), h0.upd hu (by simp), hs.upd hu (by simp), Par.upd hp hu (by simp), hk.keep hu, hv.keep hu, hu⟩
    have LOC : Hid (Calls Tryz.prog 114 #[.pointer (some ⟨pb, 0, none⟩), .slice kA N kc, .slice vA N vc] W.drew fun e w' => e = .returned (.tuple #[]) ∧ ∃ pv, BQ w' pb so lb pv gt n ct gi ic ∧ PS w' pv (prs l br) ∧ Upd [pb, lb] W w') := by
      obtain ⟨x1, x2, x3, x4, x5, x6, x7, x8⟩ := HB.out W (Upd.refl _ _)
      have h := locate_any pb lb gt n ct gi ic N kc vc kA vA so l pl ks vs W.drew ⟨fq.upd (Upd.refl [] W).drew (by simp), fl.upd0 (Upd.refl [] W).drew, by simp, ⟨rfl, .inl ⟨rfl, rfl⟩⟩, Upd.refl _ _⟩ (x1.drew) (x2.drew)
        (fun W2 hW2 => by obtain ⟨_, _, _, _, _, y6, y7, _⟩ := HB.out W2 (((Upd.refl [pb, lb] W).drew).trans hW2); exact ⟨y6, y7⟩) hn hpn hkn hvn hm hM hpl hks hvs hop
      rw [← hbr] at h
      exact h.mono fun _ _ ⟨a1, pv, a2, a3, a4⟩ => ⟨a1, pv, a2, a3, ((Upd.refl [pb, lb] W).drew).trans a4⟩
    have RES : Hid (∀ W' pv, BQ W' pb so lb pv gt n ct gi ic → PS W' pv (prs l br) → Upd [pb, lb] W W' → Calls Tryz.prog 115 #[.pointer (some ⟨pb, 0, none⟩), .int .u64 (dirOf lv).e2, .slice (some ⟨g0, 0, none⟩) N k0] W' fun e w' => e = .returned (.tuple #[]) ∧ Row w' gt 77 (clsU (brS l (cIni cs pl) br lv so)) ∧ Upd [gt] w w') := fun W' pv hq' hps hW' => by
      obtain ⟨x1, x2, x3, x4, x5, x6, x7, x8⟩ := HB.out W' hW'
      refine (resolveB_any pb lb gt n ct gi ic g0 N k0 pv so (dirOf lv) l cs pl (prs l br) W' hq' x1 x2 x3 hps hn hpn hc hm hM ?_ ?_ hpl hne hl hwLR hso).mono fun _ _ ⟨a1, a2, a3⟩ => ⟨a1, a2, (x8.mono (by simp)).trans a3⟩
      · have := prs_count (l := l) (br := br) l.length l.length
        have e : (prs l br).length ≤ l.length := prsK_le _ _
        omega
      · intro p hpm
        obtain ⟨m1, m2, m3⟩ := prs_mem hpm
        refine ⟨m1, by omega, ?_⟩
        have hpz := hpl _ (nat_mem (show p.2 < pl.length by omega))
        rw [cat_cIni (by omega)]
        refine hmk _ hpz ?_
        rw [hbr, nth_pick (by omega), nth_signed (by rw [hkn]; exact hpz)] at m3
        intro hz0
        rw [hz0] at m3
        simp at m3
    have HBR2 := Lib.hid hbr
    clear hs hp ht hi h0 hk hv hn hpn hc hkn hvn hpl hks hvs hmk hop hbr fq fl hl hso hwLR HPA hsW
    by_cases h1 : lv % 2 = 1
    · have hd : Cl.e2 (dirOf lv) = 1 := by unfold dirOf; rw [if_pos h1]; rfl
      have bm : (lv % 2 != 0) = true := by rw [h1]; rfl
      rw [hd] at RES
      clear h1 hd
      go_wp2_with fail
      obtain ⟨x1, x2, x3, x4, x5, x6, x7, x8⟩ := HB.out W (Upd.refl _ _)
      have k0' := x4.cells.c0
      have k1 := x5.cells.c1
      have k2 := x5.cells.c2
      clear x1 x2 x3 x4 x5 x6 x7 x8
      go_region_held3 (fun w' => w'.cell? ⟨q, 0, none⟩ = some (.pointer (some ⟨b, 0, none⟩)) ∧ w'.cell? ⟨b, 1, none⟩ = some (.slice kA N kc) ∧ w'.cell? ⟨b, 2, none⟩ = some (.slice vA N vc))
        (first | exact ⟨k0', k1, k2⟩ | exact ⟨m0, m1, m2⟩)
        (first | (go_at_call 114; refine LOC.out.mono ?_; rintro e w3 ⟨rfl, pv, hq3, hps3, hu3⟩; obtain ⟨y1, y2, y3, y4, y5, y6, y7, y8⟩ := HB.out _ hu3; have m0 := y4.cells.c0; have m1 := y5.cells.c1; have m2 := y5.cells.c2; have m5 := y5.cells.c0))
      all_goals
        go_wp2_with (go_at_call 115; refine (RES.out _ _ hq3 hps3 hu3).mono ?_; rintro e w4 ⟨rfl, hr4, hu4⟩)
        go_end0
        exact ⟨rfl, by rw [← HBR2.out]; exact hr4, hu4⟩
    · have hd : Cl.e2 (dirOf lv) = 0 := by unfold dirOf; rw [if_neg h1]; rfl
      have bm : (lv % 2 != 0) = false := by have : lv % 2 = 0 := by omega
                                            rw [this]; rfl
      rw [hd] at RES
      clear h1 hd
      go_wp2_with fail
      obtain ⟨x1, x2, x3, x4, x5, x6, x7, x8⟩ := HB.out W (Upd.refl _ _)
      have k0' := x4.cells.c0
      have k1 := x5.cells.c1
      have k2 := x5.cells.c2
      clear x1 x2 x3 x4 x5 x6 x7 x8
      go_region_held3 (fun w' => w'.cell? ⟨q, 0, none⟩ = some (.pointer (some ⟨b, 0, none⟩)) ∧ w'.cell? ⟨b, 1, none⟩ = some (.slice kA N kc) ∧ w'.cell? ⟨b, 2, none⟩ = some (.slice vA N vc))
        (first | exact ⟨k0', k1, k2⟩ | exact ⟨m0, m1, m2⟩)
        (first | (go_at_call 114; refine LOC.out.mono ?_; rintro e w3 ⟨rfl, pv, hq3, hps3, hu3⟩; obtain ⟨y1, y2, y3, y4, y5, y6, y7, y8⟩ := HB.out _ hu3; have m0 := y4.cells.c0; have m1 := y5.cells.c1; have m2 := y5.cells.c2; have m5 := y5.cells.c0))
      all_goals
        go_wp2_with (go_at_call 115; refine (RES.out _ _ hq3 hps3 hu3).mono ?_; rintro e w4 ⟨rfl, hr4, hu4⟩)
        go_end0
        exact ⟨rfl, by rw [← HBR2.out]; exact hr4, hu4⟩
end Go.Proofs.YtjahmnenfknjgaaGreatDoor
