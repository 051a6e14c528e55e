/- The set's Brackets (N0), by its contract. -/
import Derived.Test.YtjahmnenfknjgaaGreatDoorG12
import Derived.BigQuiet
set_option linter.unusedVariables false
set_option linter.unusedSimpArgs false
namespace Go.Proofs.YtjahmnenfknjgaaGreatDoor
open Go.RowKit

theorem inside_fix (A : Option Addr) (c : Nat) (l : List Cl) (a b : Nat) (way : Cl) (p q : Bool) (w : World) (hp : IsSo p (InsSame l a b way)) (hq : IsSo q (InsOther l a b way)) (hr : Rd w A (nums .i64 (clsI l))) (hb : b ≤ l.length) (ha : a ≤ l.length) (hm : l.length ≤ 2147483647) :
    Calls Tryz.prog 75 #[.slice A l.length c, .int .i64 a, .int .i64 b, .int .i64 way.e1] w fun e w' => e = .returned (.tuple #[.bool p, .bool q]) ∧ w' = w :=
  (inside_any A c l a b way w hr hb ha hm).mono fun e w' ⟨⟨p', q', he, h1, h2⟩, hw⟩ => by
    have e1 : p' = p := Bool.eq_iff_iff.2 (h1.trans hp.symm)
    have e2 : q' = q := Bool.eq_iff_iff.2 (h2.trans hq.symm)
    subst e1 e2
    exact ⟨he, hw.symm⟩
theorem isSo_ex (P : Prop) : ∃ b, IsSo b P := by
  by_cases h : P
  · exact ⟨true, by simp [IsSo, h]⟩
  · exact ⟨false, by simp [IsSo, h]⟩
theorem prs_lt {l : List Cl} {br : List Int} {i : Nat} (h : i < (prs l br).length) : (prs l br)[i].1 < (prs l br)[i].2 ∧ (prs l br)[i].2 < l.length := by
  have hm : (prs l br)[i] ∈ prs l br := List.getElem_mem h
  generalize (prs l br)[i] = p at *
  simp only [prs, prsOf, List.mem_filterMap, List.mem_range] at hm
  obtain ⟨q, hq, he⟩ := hm
  split at he
  · rename_i hpos
    simp at he
    subst he
    rcases pst_val l br l.length q with h0 | ⟨c, h1, h2, h3⟩
    · omega
    · simp only; rw [h1]; simp; omega
  · cases he
theorem prs_le (l : List Cl) (br : List Int) : (prs l br).length ≤ l.length := by
  have := prsK_le (pst l br l.length).cl l.length
  exact this
theorem nstep_same {ini : List Cl} {way st : Cl} {m : List Cl} {p : Nat × Nat} (h : InsSame m p.1 p.2 way) : nstep ini way st m p = nset ini way p.2 (nset ini way p.1 m) := by
  unfold nstep; rw [if_pos (.inl h), if_pos h]
theorem nstep_other {ini : List Cl} {way st : Cl} {m : List Cl} {p : Nat × Nat} (h : ¬ InsSame m p.1 p.2 way) (h' : InsOther m p.1 p.2 way) : nstep ini way st m p = nset ini (ctx m st p.1) p.2 (nset ini (ctx m st p.1) p.1 m) := by
  unfold nstep; rw [if_pos (.inr h'), if_neg h]
theorem nstep_none {ini : List Cl} {way st : Cl} {m : List Cl} {p : Nat × Nat} (h : ¬ InsSame m p.1 p.2 way) (h' : ¬ InsOther m p.1 p.2 way) : nstep ini way st m p = m := by
  unfold nstep; rw [if_neg (fun x => by rcases x with x | x; exact h x; exact h' x)]
theorem fillN_stopS {ini : List Cl} {t : Cl} {f k : Nat} {m : List Cl} (h : ¬ (k < m.length ∧ cat ini k = .NSM)) : fillN ini t f k m = m := by
  cases f with
  | zero => rfl
  | succ f => rw [fillN, if_neg h]
theorem fillN_goS {ini : List Cl} {t : Cl} {f k : Nat} {m : List Cl} (h : k < m.length ∧ cat ini k = .NSM) : fillN ini t (f + 1) k m = fillN ini t f (k + 1) (m.set k t) := by
  rw [fillN, if_pos h]

set_option maxHeartbeats 8000000 in
set_option maxRecDepth 100000 in
theorem sBrackets_any (A1 A2 A3 : Option Addr) (c1 c2 c3 : Nat) (l ini : List Cl) (br : List Int) (lv : Int) (st : Cl) (w : World) (h1 : Rd w A1 (nums .i64 (clsI l))) (h2 : Rd w A2 (nums .i64 (clsI ini))) (h3 : Rd w A3 (nums .i64 br)) (hi : ini.length = l.length) (hl : br.length = l.length)
    (hv : ∀ j, j < l.length → -1114111 ≤ nth br j ∧ nth br j ≤ 1114111) (hop : ∀ i, i < l.length → cat l i = .ON → 0 < nth br i → (pst l br i).stk.length < 63) (h0 : 0 < l.length) (hl0 : 0 ≤ lv) (hl1 : lv ≤ 125) (hm : l.length ≤ 2147483647) :
    Calls Tryz.prog 35 #[.slice A1 l.length c1, .slice A2 l.length c2, .slice A3 l.length c3, .int .i64 lv, .int .i64 st.e1] w (RetRow w 3 l.length (nums .i64 (clsI (brS l ini br lv st)))) := by
  obtain ⟨i0, hi', hz0, hz1, hz2⟩ := info_parts info3
  obtain ⟨ga, oa, rfl, hca⟩ := h1.some (by rw [nums_length, clsI_length]; exact h0)
  have hga : ga < w.heap.size := World.block_lt_of_cell? w _ (hca 0 _ (List.getElem?_eq_getElem (by rw [nums_length, clsI_length]; exact h0)))
  have hown := World.ownsRow_lit (base := w.heap.size) (e := 3) (size := 1) w #[] 0 (Nat.le_refl _) (by decide) rfl
  have HC1 : Hid (∀ j u, (nums .i64 (clsI l))[j]? = some u → (w.alloc (.cells #[] 3)).cell? ((⟨ga, oa, none⟩ : Addr).add j) = some u) := by
    intro j u hj
    rw [Addr.add_lit, World.cell?_alloc_past _ _ _ (by omega)]
    exact hca j u hj
  clear hca
  have HI := Lib.hid hi
  have HL := Lib.hid hl
  have HV := Lib.hid hv
  have HOP := Lib.hid hop
  have hpl := prs_le l br
  have HPLT : Hid (∀ i (h : i < (prs l br).length), (prs l br)[i].1 < (prs l br)[i].2 ∧ (prs l br)[i].2 < l.length) := fun i h => prs_lt h
  have HBR : Hid (brS l ini br lv st = (prs l br).foldl (nstep ini (dirOf lv) st) l) := rfl
  clear hi hl hv hop
  go_enter Tryz.func35, Tryz.ntmps35
  go_wp2_with (at_builtin; go_must (refine wpList_append_own _ rfl (.tmp 21) (.tmp 22) 22 rfl w.heap.size 3 i0 (.int .i64 0) 1 8 Tryz.underlying22 hi' hz0 hz1 hz2 rfl (by decide) _ 0 [] rfl hown ⟨ga, oa, none⟩ l.length c1 (nums .i64 (clsI l)) rfl (by rw [nums_length, clsI_length]; omega) HC1.out (nums_one _ _) (by unfold maxLen; omega) (by omega) (by simp) ?_); intro v2 w2 hown2 hgrow2 _)
  rw [Nat.zero_add, List.nil_append] at hown2
  obtain ⟨g, ct, rfl, hg⟩ := owns_slice hown2 h0
  have hR := Row.of_owns hown2
  have hu : Upd [] w w2 := ((Upd.refl _ _).alloc _).grown hgrow2 (fun k e => by cases e; exact .inr (by show _ ≤ w.heap.size; omega))
  clear hgrow2 hown2 hown HC1
  go_wp2_with (first
    | (go_at_call 68; refine (direction_any _ _ hl0 (by omega)).mono ?_; rintro e w' ⟨rfl, rfl⟩)
    | (go_at_call 74; refine (sPairs_any (some ⟨ga, oa, none⟩) A3 c1 c3 l br _ (h1.keep hu) (h3.keep hu) HL.out HV.out HOP.out hm).mono ?_; rintro e w3 ⟨A, cp, rfl, hcp, hAb, ⟨gs, hgs, hRd, hgrow⟩, hu3⟩))
  have hP : PairsIn w3 w2.heap.size gs (prs l br) := ⟨hgs, hgrow⟩
  have hR3 := hR.upd hu3 (by simp)
  have hu03 := hu.then hu3
  have hglt : g < w2.heap.size := hR.lt
  have hsz3 := hu3.size
  clear hgrow hR hu3 hu
  generalize hway : dirOf lv = way at *
  have HWAY := Lib.hid hway
  clear hway
  go_loopg [30] ((prs l br).length + 1) (fun k iv wr => ∃ (j : Nat) (m : List Cl), iv = .int .i64 j ∧ j ≤ (prs l br).length ∧ Row wr g 3 (nums .i64 (clsI m)) ∧ Hid (m.length = l.length) ∧ Hid (m = ((prs l br).take j).foldl (nstep ini way st) l) ∧ Upd [g] w3 wr ∧ Hid ((prs l br).length + 1 - j ≤ k))
  case atStart => exact ⟨0, l, rfl, by omega, hR3, rfl, rfl, Upd.refl _ _, Nat.le_refl _⟩
  case round =>
    obtain ⟨j, m, rfl, hj, hRm, HML, HM, hu, hk⟩ := hrel
    obtain ⟨wo, rfl⟩ : ∃ wo : World, wo = wr := ⟨_, rfl⟩
    by_cases hlt : j < (prs l br).length
    · have hjg : j < gs.length := by rw [hP.1]; exact hlt
      obtain ⟨gA, oA, rfl, hcA⟩ := hRd j (by simpa using hjg)
      have hgA : w2.heap.size ≤ gA := hAb _ rfl
      have hcA2 := hu.cell (p := ⟨gA, oA + j, none⟩) hcA (by simp; omega)
      rw [List.getElem_map] at hcA2
      obtain ⟨hgjb, hgj0⟩ := hP.2 j hjg hlt
      have hgjne : gs[j] ∉ [g] := by simp; omega
      have hgj1 := hgj0.upd hu hgjne
      obtain ⟨hab, hbl⟩ := HPLT.out j hlt
      have hal : (prs l br)[j].1 < l.length := by omega
      have HN0s := Lib.hid (@nstep_same ini way st m (prs l br)[j])
      have HN0o := Lib.hid (@nstep_other ini way st m (prs l br)[j])
      have HN0n := Lib.hid (@nstep_none ini way st m (prs l br)[j])
      have hA2g : ∀ x, A2 = some x → x.block ∉ [g] := fun x hx => by
        by_cases hin : 0 < ini.length
        · obtain ⟨gi, oi, e, hci⟩ := h2.num 0 (by rw [clsI_length]; exact hin)
          rw [e] at hx
          have := Option.some.inj hx
          subst this
          have := World.block_lt_of_cell? w _ hci
          simp at this ⊢
          omega
        · rw [HI.out] at hin; exact absurd h0 hin
      generalize (prs l br)[j].1 = a at *
      generalize (prs l br)[j].2 = b at *
      obtain ⟨gj, hgjv⟩ : ∃ gj, gj = gs[j] := ⟨_, rfl⟩
      rw [← hgjv] at hcA2 hgj1 hgjne hgj0
      have hcA3 : wo.cell? ⟨gA, oA + j, none⟩ = some (.slice (some ⟨gj, 0, none⟩) 2 2) := hcA2
      clear hcA2
      have hgj := hgj1
      have HGJ := Lib.hid hgjv
      clear hgjv hgj0 hgj1 hcA
      have hca := hgj.num 0 (by simp [nats])
      have hcb := hgj.num 1 (by simp [nats])
      rw [nth_nats (by simp), show nat [a, b] 0 = a from rfl] at hca
      rw [nth_nats (by simp), show nat [a, b] 1 = b from rfl] at hcb
      obtain ⟨p, hp⟩ := isSo_ex (InsSame m a b way)
      obtain ⟨q0, hq0⟩ := isSo_ex (InsOther m a b way)
      have hins : Hid (∀ n, Calls Tryz.prog 75 #[.slice (some ⟨g, 0, none⟩) m.length ct, .int .i64 a, .int .i64 b, .int .i64 way.e1] (wo.drewN n) fun e w' => e = .returned (.tuple #[.bool p, .bool q0]) ∧ w' = wo.drewN n) := fun n => inside_fix _ _ m a b way p q0 _ hp hq0 ((Rd.of_row hRm).drewN n) (by rw [HML.out]; omega) (by rw [HML.out]; omega) (by rw [HML.out]; exact hm)
      have hctx : Hid (∀ W, Rd W (some ⟨g, 0, none⟩) (nums .i64 (clsI m)) → Calls Tryz.prog 76 #[.slice (some ⟨g, 0, none⟩) m.length ct, .int .i64 a, .int .i64 st.e1] W fun e w' => e = .returned (.int .i64 (ctx m st a).e1) ∧ W = w') := fun W hW => context_any _ _ m a st W hW (by rw [HML.out]; omega) (by rw [HML.out]; exact hm)
      rw [HML.out] at hins hctx
      have hrdm := Rd.of_row hRm
      have hgpos : g < wo.heap.size := hRm.lt
      have HRd := Lib.hid hRd
      clear hRd
      cases p with
      | true =>
        have hsame : InsSame m a b way := hp.1 rfl
        have HN : Hid (nstep ini way st m (prs l br)[j] = nset ini way b (nset ini way a m)) := by
          exact HN0s.out hsame
        clear HN0s HN0o HN0n hp hsame
        cases q0
        all_goals
          go_wp2
          go_quiet ((go_at_call 75; exact Calls.quiet_of_same (hins.out _)))
          go_wp2
          go_loopg [63] 3 (fun k iv wr2 => ∃ (q : Nat) (m2 : List Cl), iv = .int .i64 q ∧ q ≤ 2 ∧ Row wr2 g 3 (nums .i64 (clsI m2)) ∧ Hid (m2.length = l.length) ∧ Hid (m2 = (([a, b] : List Nat).take q).foldl (fun o x => nset ini way x o) m) ∧ Upd [g] wo wr2 ∧ Hid (3 - q ≤ k))
          case atStart => exact ⟨0, m, rfl, by omega, hRm.drewN _, HML, rfl, (Upd.refl _ _).drewN _, Nat.le_refl _⟩
          case round =>
            obtain ⟨q, m2, rfl, hq, hR2, HML2, HM2, hu2, hk2⟩ := hrel
            by_cases hq2 : q < 2
            · have hgj2 := (hgj.upd hu2 hgjne)
              have hcx := hgj2.num q (by simpa [nats] using hq2)
              rw [nth_nats (by simpa using hq2)] at hcx
              have hxl : nat [a, b] q < l.length := by
                match q, hq2 with
                | 0, _ => exact hal
                | 1, _ => exact hbl
              generalize hx : nat [a, b] q = x at *
              have HX := Lib.hid hx
              clear hx
              have hxm : x < m2.length := by rw [HML2.out]; exact hxl
              have hcs := hR2.num x (by rw [clsI_length]; exact hxm)
              have hfs := hR2.free x
              have hR3 := hR2.setClsI x way hxm
              have hu3 := hu2.setCell (p := ⟨g, x, none⟩) (.inl (by simp)) (.int .i64 way.e1)
              have HNS : Hid (fillN ini way m2.length (x + 1) (m2.set x way) = nset ini way x m2) := rfl
              have HL3 : Hid ((m2.set x way).length = l.length) := by show _ = _; rw [List.length_set]; exact HML2.out
              go_wp2
              go_loopg [20] (l.length + 1) (fun k iv wr3 => ∃ (kk f : Nat) (m3 : List Cl), iv = .int .i64 kk ∧ kk ≤ l.length ∧ Row wr3 g 3 (nums .i64 (clsI m3)) ∧ Hid (m3.length = l.length) ∧ Hid (fillN ini way f kk m3 = nset ini way x m2) ∧ Hid (l.length ≤ kk + f) ∧ Upd [g] wo wr3 ∧ Hid (l.length + 1 - kk ≤ k))
              case atStart => exact ⟨x + 1, m2.length, _, by go_num, by omega, hR3, HL3, HNS, (by rw [HML2.out]; omega : _ ≤ _), hu3, (by omega : _ ≤ _)⟩
              case round =>
                obtain ⟨kk, f, m3, rfl, hkk, hR4, HL4, HF4, HK4, hu4, hk3⟩ := hrel
                have stop : Hid ((kk < l.length → cat ini kk ≠ .NSM) → m3 = nset ini way x m2) := fun h => by
                  rw [← HF4.out, fillN_stopS (fun h' => h (by rw [← HL4.out]; exact h'.1) h'.2)]
                have fin : Hid (m3 = nset ini way x m2 → m3 = (([a, b] : List Nat).take (q + 1)).foldl (fun o x => nset ini way x o) m) := fun h => by
                  rw [h, List.take_succ_eq_append_getElem (by simpa using hq2), List.foldl_append, ← HM2.out, nat_eq (by simpa using hq2), HX.out]; rfl
                by_cases hkl : kk < l.length
                · have hci := ((h2.keep hu03).upd (hu.trans hu4) hA2g).num kk (by rw [clsI_length, HI.out]; exact hkl)
                  obtain ⟨gi, oi, rfl, hci⟩ := hci
                  rw [nth_clsI (by rw [HI.out]; exact hkl)] at hci
                  have bn : ((cat ini kk).e1 == 12) = decide (cat ini kk = .NSM) := Cl.e1_beq (cat ini kk) .NSM
                  by_cases hn : cat ini kk = .NSM
                  · rw [decide_eq_true hn] at bn
                    have hkm : kk < m3.length := by rw [HL4.out]; exact hkl
                    obtain ⟨f', rfl⟩ : ∃ f', f = f' + 1 := ⟨f - 1, by have := HK4.out; omega⟩
                    have HF5 : Hid (fillN ini way f' (kk + 1) (m3.set kk way) = nset ini way x m2) := by show _ = _; rw [← fillN_goS ⟨hkm, hn⟩]; exact HF4.out
                    have hck := hR4.num kk (by rw [clsI_length]; exact hkm)
                    have hfk := hR4.free kk
                    have hR5 := hR4.setClsI kk way hkm
                    have HL5 : Hid ((m3.set kk way).length = l.length) := by show _ = _; rw [List.length_set]; exact HL4.out
                    have hu5 := hu4.setCell (p := ⟨g, kk, none⟩) (.inl (by simp)) (.int .i64 way.e1)
                    clear hn stop fin
                    go_wp2
                    go_roundg (l.length + 1 - (kk + 1))
                    case measure => have := hk3.out; omega
                    case rel => exact ⟨kk + 1, f', _, by go_num, by omega, hR5, HL5, HF5, (by have := HK4.out; omega : _ ≤ _), hu5, Nat.le_refl _⟩
                  · rw [decide_eq_false hn] at bn
                    have HM5 : Hid _ := fin.out (stop.out (fun _ => hn))
                    clear hn stop fin
                    go_wp2
                    go_roundg (3 - (q + 1))
                    case measure => have := hk2.out; omega
                    case rel => exact ⟨q + 1, m3, by go_num, by omega, hR4, HL4, HM5, hu4, Nat.le_refl _⟩
                · have HM5 : Hid _ := fin.out (stop.out (fun h => absurd h hkl))
                  clear stop fin
                  go_wp2
                  go_roundg (3 - (q + 1))
                  case measure => have := hk2.out; omega
                  case rel => exact ⟨q + 1, m3, by go_num, by omega, hR4, HL4, HM5, hu4, Nat.le_refl _⟩
            · obtain rfl : q = 2 := by omega
              have HF6 : Hid (m2 = ((prs l br).take (j + 1)).foldl (nstep ini way st) l) := by
                show _ = _
                rw [HM2.out, List.take_succ_eq_append_getElem hlt, List.foldl_append, ← HM.out]
                exact HN.out.symm
              have hu6 := hu.trans hu2
              go_wp2
              go_roundg ((prs l br).length + 1 - (j + 1))
              case measure => have := hk.out; omega
              case rel => exact ⟨j + 1, m2, by go_num, by omega, hR2, HML2, HF6, hu6, Nat.le_refl _⟩
      | false =>
        have hns : ¬ InsSame m a b way := fun h => by have := hp.2 h; cases this
        cases q0 with
        | true =>
          have hoth : InsOther m a b way := hq0.1 rfl
          have HN1 : Hid (nstep ini way st m (prs l br)[j] = nset ini (ctx m st a) b (nset ini (ctx m st a) a m)) := by
            exact HN0o.out hns hoth
          clear HN0s HN0o HN0n hp hns hoth hq0
          generalize ctx m st a = t at *
          have HN := HN1
          go_wp2
          go_quiet ((go_at_call 75; exact Calls.quiet_of_same (hins.out _)))
          go_wp2_with (go_at_call 76; refine (hctx.out _ (hrdm.drewN _)).mono ?_; rintro e w' ⟨rfl, rfl⟩)
          go_loopg [63] 3 (fun k iv wr2 => ∃ (q : Nat) (m2 : List Cl), iv = .int .i64 q ∧ q ≤ 2 ∧ Row wr2 g 3 (nums .i64 (clsI m2)) ∧ Hid (m2.length = l.length) ∧ Hid (m2 = (([a, b] : List Nat).take q).foldl (fun o x => nset ini t x o) m) ∧ Upd [g] wo wr2 ∧ Hid (3 - q ≤ k))
          case atStart => exact ⟨0, m, rfl, by omega, hRm.drewN _, HML, rfl, (Upd.refl _ _).drewN _, Nat.le_refl _⟩
          case round =>
            obtain ⟨q, m2, rfl, hq, hR2, HML2, HM2, hu2, hk2⟩ := hrel
            by_cases hq2 : q < 2
            · have hgj2 := (hgj.upd hu2 hgjne)
              have hcx := hgj2.num q (by simpa [nats] using hq2)
              rw [nth_nats (by simpa using hq2)] at hcx
              have hxl : nat [a, b] q < l.length := by
                match q, hq2 with
                | 0, _ => exact hal
                | 1, _ => exact hbl
              generalize hx : nat [a, b] q = x at *
              have HX := Lib.hid hx
              clear hx
              have hxm : x < m2.length := by rw [HML2.out]; exact hxl
              have hcs := hR2.num x (by rw [clsI_length]; exact hxm)
              have hfs := hR2.free x
              have hR3 := hR2.setClsI x t hxm
              have hu3 := hu2.setCell (p := ⟨g, x, none⟩) (.inl (by simp)) (.int .i64 t.e1)
              have HNS : Hid (fillN ini t m2.length (x + 1) (m2.set x t) = nset ini t x m2) := rfl
              have HL3 : Hid ((m2.set x t).length = l.length) := by show _ = _; rw [List.length_set]; exact HML2.out
              go_wp2
              go_loopg [20] (l.length + 1) (fun k iv wr3 => ∃ (kk f : Nat) (m3 : List Cl), iv = .int .i64 kk ∧ kk ≤ l.length ∧ Row wr3 g 3 (nums .i64 (clsI m3)) ∧ Hid (m3.length = l.length) ∧ Hid (fillN ini t f kk m3 = nset ini t x m2) ∧ Hid (l.length ≤ kk + f) ∧ Upd [g] wo wr3 ∧ Hid (l.length + 1 - kk ≤ k))
              case atStart => exact ⟨x + 1, m2.length, _, by go_num, by omega, hR3, HL3, HNS, (by rw [HML2.out]; omega : _ ≤ _), hu3, (by omega : _ ≤ _)⟩
              case round =>
                obtain ⟨kk, f, m3, rfl, hkk, hR4, HL4, HF4, HK4, hu4, hk3⟩ := hrel
                have stop : Hid ((kk < l.length → cat ini kk ≠ .NSM) → m3 = nset ini t x m2) := fun h => by
                  rw [← HF4.out, fillN_stopS (fun h' => h (by rw [← HL4.out]; exact h'.1) h'.2)]
                have fin : Hid (m3 = nset ini t x m2 → m3 = (([a, b] : List Nat).take (q + 1)).foldl (fun o x => nset ini t x o) m) := fun h => by
                  rw [h, List.take_succ_eq_append_getElem (by simpa using hq2), List.foldl_append, ← HM2.out, nat_eq (by simpa using hq2), HX.out]; rfl
                by_cases hkl : kk < l.length
                · have hci := ((h2.keep hu03).upd (hu.trans hu4) hA2g).num kk (by rw [clsI_length, HI.out]; exact hkl)
                  obtain ⟨gi, oi, rfl, hci⟩ := hci
                  rw [nth_clsI (by rw [HI.out]; exact hkl)] at hci
                  have bn : ((cat ini kk).e1 == 12) = decide (cat ini kk = .NSM) := Cl.e1_beq (cat ini kk) .NSM
                  by_cases hn : cat ini kk = .NSM
                  · rw [decide_eq_true hn] at bn
                    have hkm : kk < m3.length := by rw [HL4.out]; exact hkl
                    obtain ⟨f', rfl⟩ : ∃ f', f = f' + 1 := ⟨f - 1, by have := HK4.out; omega⟩
                    have HF5 : Hid (fillN ini t f' (kk + 1) (m3.set kk t) = nset ini t x m2) := by show _ = _; rw [← fillN_goS ⟨hkm, hn⟩]; exact HF4.out
                    have hck := hR4.num kk (by rw [clsI_length]; exact hkm)
                    have hfk := hR4.free kk
                    have hR5 := hR4.setClsI kk t hkm
                    have HL5 : Hid ((m3.set kk t).length = l.length) := by show _ = _; rw [List.length_set]; exact HL4.out
                    have hu5 := hu4.setCell (p := ⟨g, kk, none⟩) (.inl (by simp)) (.int .i64 t.e1)
                    clear hn stop fin
                    go_wp2
                    go_roundg (l.length + 1 - (kk + 1))
                    case measure => have := hk3.out; omega
                    case rel => exact ⟨kk + 1, f', _, by go_num, by omega, hR5, HL5, HF5, (by have := HK4.out; omega : _ ≤ _), hu5, Nat.le_refl _⟩
                  · rw [decide_eq_false hn] at bn
                    have HM5 : Hid _ := fin.out (stop.out (fun _ => hn))
                    clear hn stop fin
                    go_wp2
                    go_roundg (3 - (q + 1))
                    case measure => have := hk2.out; omega
                    case rel => exact ⟨q + 1, m3, by go_num, by omega, hR4, HL4, HM5, hu4, Nat.le_refl _⟩
                · have HM5 : Hid _ := fin.out (stop.out (fun h => absurd h hkl))
                  clear stop fin
                  go_wp2
                  go_roundg (3 - (q + 1))
                  case measure => have := hk2.out; omega
                  case rel => exact ⟨q + 1, m3, by go_num, by omega, hR4, HL4, HM5, hu4, Nat.le_refl _⟩
            · obtain rfl : q = 2 := by omega
              have HF6 : Hid (m2 = ((prs l br).take (j + 1)).foldl (nstep ini way st) l) := by
                show _ = _
                rw [HM2.out, List.take_succ_eq_append_getElem hlt, List.foldl_append, ← HM.out]
                exact HN.out.symm
              have hu6 := hu.trans hu2
              go_wp2
              go_roundg ((prs l br).length + 1 - (j + 1))
              case measure => have := hk.out; omega
              case rel => exact ⟨j + 1, m2, by go_num, by omega, hR2, HML2, HF6, hu6, Nat.le_refl _⟩
        | false =>
          have hno : ¬ InsOther m a b way := fun h => by have := hq0.2 h; cases this
          have HF6 : Hid (m = ((prs l br).take (j + 1)).foldl (nstep ini way st) l) := by
            show _ = _
            rw [List.take_succ_eq_append_getElem hlt, List.foldl_append, ← HM.out]
            show m = nstep ini way st m (prs l br)[j]
            exact (HN0n.out hns hno).symm
          clear HN0s HN0o HN0n hp hns hno hq0
          go_wp2
          go_quiet ((go_at_call 75; exact Calls.quiet_of_same (hins.out _)))
          go_wp2
          go_roundg ((prs l br).length + 1 - (j + 1))
          case measure => have := hk.out; omega
          case rel => exact ⟨j + 1, m, by go_num, by omega, hRm.drewN _, HML, HF6, hu.drewN _, Nat.le_refl _⟩
    · obtain rfl : j = (prs l br).length := by omega
      rw [List.take_length] at HM
      have HE : Hid (m = brS l ini br lv st) := by show _ = _; rw [HM.out, HBR.out]
      go_wp2
      go_ret
      exact ⟨g, ct, rfl, hg, by rw [← HE.out]; exact hRm, hu03.step hu (fun x hx => by simp at hx; exact .inr (by omega))⟩
end Go.Proofs.YtjahmnenfknjgaaGreatDoor
namespace Go.Proofs.YtjahmnenfknjgaaGreatDoor
open Go.RowKit

theorem InP.set2 {w wr : World} {g j : Nat} {l m : List Cl} {f : Nat → Cl} (h : InP w wr g l f j m) (hj : j < l.length) (d x : Cl) (he : f j = x) : InP w ((wr.setCell ⟨g, j, none⟩ (.int .i64 d.e1)).setCell ⟨g, j, none⟩ (.int .i64 x.e1)) g l f (j + 1) (m.set j x) := by
  have h1 := h.set hj x he
  refine ⟨?_, h1.len, h1.don, h1.rest, (h.up.setCell (.inl (by simp)) _).setCell (.inl (by simp)) _⟩
  have := (h.row.setClsI j d (by rw [h.len]; exact hj)).setClsI j x (by rw [List.length_set, h.len]; exact hj)
  rwa [List.set_set] at this

set_option maxHeartbeats 8000000 in
set_option maxRecDepth 100000 in
theorem sNeutral_any (A : Option Addr) (c : Nat) (l : List Cl) (lv : Int) (sos eos : Cl) (w : World) (h1 : Rd w A (nums .i64 (clsI l))) (hN : ∀ j, j < l.length → isN (cat l j) = true) (h0 : 0 < l.length) (hl0 : 0 ≤ lv) (hl1 : lv ≤ 125) (hm : l.length ≤ 2147483647) :
    Calls Tryz.prog 36 #[.slice A l.length c, .int .i64 lv, .int .i64 sos.e1, .int .i64 eos.e1] w (RetRow w 3 l.length (nums .i64 (clsI (neuS l lv sos eos)))) := by
  obtain ⟨i0, hi', hz0, hz1, hz2⟩ := info_parts info3
  obtain ⟨ga, oa, rfl, hca⟩ := h1.some (by rw [nums_length, clsI_length]; exact h0)
  have hga : ga < w.heap.size := World.block_lt_of_cell? w _ (hca 0 _ (List.getElem?_eq_getElem (by rw [nums_length, clsI_length]; exact h0)))
  have hown := World.ownsRow_lit (base := w.heap.size) (e := 3) (size := 1) w #[] 0 (Nat.le_refl _) (by decide) rfl
  have HC1 : Hid (∀ j u, (nums .i64 (clsI l))[j]? = some u → (w.alloc (.cells #[] 3)).cell? ((⟨ga, oa, none⟩ : Addr).add j) = some u) := by
    intro j u hj
    rw [Addr.add_lit, World.cell?_alloc_past _ _ _ (by omega)]
    exact hca j u hj
  clear hca
  have HN := Lib.hid hN
  clear hN
  go_enter Tryz.func36, Tryz.ntmps36
  go_wp2_with (at_builtin; go_must (refine wpList_append_own _ rfl (.tmp 16) (.tmp 17) 22 rfl w.heap.size 3 i0 (.int .i64 0) 1 8 Tryz.underlying22 hi' hz0 hz1 hz2 rfl (by decide) _ 0 [] rfl hown ⟨ga, oa, none⟩ l.length c (nums .i64 (clsI l)) rfl (by rw [nums_length, clsI_length]; omega) HC1.out (nums_one _ _) (by unfold maxLen; omega) (by omega) (by simp) ?_); intro v2 w2 hown2 hgrow2 _)
  rw [Nat.zero_add, List.nil_append] at hown2
  obtain ⟨g, ct, rfl, hg⟩ := owns_slice hown2 h0
  have hR := Row.of_owns hown2
  have hu : Upd [] w w2 := ((Upd.refl _ _).alloc _).grown hgrow2 (fun k e => by cases e; exact .inr (by show _ ≤ w.heap.size; omega))
  have h12 := h1.keep hu
  have hgag : ga ≠ g := by omega
  clear hgrow2 hown2 hown HC1
  go_wp2
  go_loopg [21] (l.length + 1) (fun k i wr => ∃ (j : Nat) (m : List Cl), i = .int .i64 j ∧ j ≤ l.length ∧ InP w2 wr g l (n12 l lv sos eos) j m ∧ Hid (l.length + 1 - j ≤ k))
  case atStart => exact ⟨0, l, rfl, by omega, InP.start hR, Nat.le_refl _⟩
  case round =>
    obtain ⟨j, m, rfl, hj, hI, hk⟩ := hrel
    obtain ⟨wo, rfl⟩ : ∃ wo : World, wo = wr := ⟨_, rfl⟩
    by_cases hlt : j < l.length
    · have hT : Hid (∀ q, q < l.length → wo.cell? ⟨ga, oa + q, none⟩ = some (.int .i64 (cat l q).e1)) := fun q hq => by
        have := (h12.upd hI.up (fun a e => by cases e; simpa using hgag)).numS q (by rw [clsI_length]; exact hq)
        rwa [nth_clsI hq] at this
      have hc := hT.out j hlt
      have hni := Lib.hid (fun w => isNeutral_any (cat l j) w)
      by_cases hn : (cat l j).isNI = true
      · have hf := hI.row.free j
        have hcm := hI.cell j hlt
        have HNI := Lib.hid hn
        have hn12 : Hid (n12 l lv sos eos j = if nb l sos j = na l eos (j + 1) then nb l sos j else dirOf lv) := by show _ = _; unfold n12; rw [if_pos hn]
        rw [hn] at hni
        clear hn
        have bq := Cl.e1_beq (nb l sos j) (na l eos (j + 1))
        go_wp2_with (go_at_call 77; refine (hni.out _).mono ?_; rintro e w' ⟨rfl, rfl⟩)
        go_loopg [12, 14] (j + 1) (fun k b i wr => ∃ kk : Nat, i = .int .i64 ((kk : Int) - 1) ∧ kk ≤ j ∧ b = .int .i64 sos.e1 ∧ Hid (nb l sos kk = nb l sos j) ∧ wo = wr ∧ Hid (kk + 1 ≤ k))
        case atStart => exact ⟨j, by go_num, Nat.le_refl _, rfl, rfl, rfl, Nat.le_refl _⟩
        case round =>
          obtain ⟨kk, rfl, hkk, rfl, HK, rfl, hk2⟩ := hrel
          match kk, hkk, HK, hk2 with
          | 0, hkk, HK, hk2 =>
            have HB : Hid (sos.e1 = (nb l sos j).e1) := by show _ = _; rw [← HK.out]; rfl
            go_wp2
            go_loopg [13, 15] (l.length + 1) (fun k b i wr => ∃ k3 : Nat, i = .int .i64 k3 ∧ k3 ≤ l.length ∧ b = .int .i64 eos.e1 ∧ Hid (na l eos k3 = na l eos (j + 1)) ∧ wo = wr ∧ Hid (l.length + 1 - k3 ≤ k))
            case atStart => exact ⟨j + 1, by go_num, by omega, rfl, rfl, rfl, (by omega : _ ≤ _)⟩
            case round =>
              obtain ⟨k3, rfl, hk3, rfl, HK3, rfl, hk4⟩ := hrel
              by_cases hk3l : k3 < l.length
              · have hcc := hT.out k3 hk3l
                have HX := Lib.hid (fun w => isNeutral_any (cat l k3) w)
                by_cases hkn : (cat l k3).isNI = true
                · have HK5 : Hid (na l eos (k3 + 1) = na l eos (j + 1)) := by show _ = _; rw [← HK3.out, na_ni hk3l hkn]
                  rw [hkn] at HX
                  clear hkn
                  go_wp2_with (go_at_call 77; refine (HX.out _).mono ?_; rintro e w' ⟨rfl, rfl⟩)
                  go_roundg (l.length + 1 - (k3 + 1))
                  case measure => have := hk4.out; omega
                  case rel => exact ⟨k3 + 1, by go_num, by omega, rfl, HK5, rfl, Nat.le_refl _⟩
                · have hkf : (cat l k3).isNI = false := by simpa using hkn
                  have HA : Hid ((stR (cat l k3)).e1 = (na l eos (j + 1)).e1) := by show _ = _; rw [← HK3.out, na_not hk3l hkf]
                  have HY := Lib.hid (fun w => strong_any (cat l k3) w)
                  rw [stg_isN (HN.out k3 hk3l) hkf] at HY
                  simp only [ov1] at HY
                  rw [hkf] at HX
                  clear hkn hkf
                  have bq2 : (sos.e1 == (stR (cat l k3)).e1) = decide (nb l sos j = na l eos (j + 1)) := by rw [HB.out, HA.out]; exact bq
                  by_cases he : nb l sos j = na l eos (j + 1)
                  · rw [decide_eq_true he] at bq2
                    have hI2 := hI.set2 hlt (dirOf lv) (nb l sos j) (by rw [hn12.out, if_pos he])
                    rw [← HB.out] at hI2
                    clear he bq
                    go_wp2_with (first | (go_at_call 77; refine (HX.out _).mono ?_; rintro e w' ⟨rfl, rfl⟩) | (go_at_call 78; refine (HY.out _).mono ?_; rintro e w' ⟨rfl, rfl⟩) | (go_at_call 68; refine (direction_any _ _ hl0 (by omega)).mono ?_; rintro e w' ⟨rfl, rfl⟩))
                    go_roundg (l.length + 1 - (j + 1))
                    case measure => have := hk.out; omega
                    case rel => exact ⟨j + 1, _, by go_num, by omega, hI2, Nat.le_refl _⟩
                  · rw [decide_eq_false he] at bq2
                    have hI2 := hI.set hlt (dirOf lv) (by rw [hn12.out, if_neg he])
                    clear he bq
                    go_wp2_with (first | (go_at_call 77; refine (HX.out _).mono ?_; rintro e w' ⟨rfl, rfl⟩) | (go_at_call 78; refine (HY.out _).mono ?_; rintro e w' ⟨rfl, rfl⟩) | (go_at_call 68; refine (direction_any _ _ hl0 (by omega)).mono ?_; rintro e w' ⟨rfl, rfl⟩))
                    go_roundg (l.length + 1 - (j + 1))
                    case measure => have := hk.out; omega
                    case rel => exact ⟨j + 1, _, by go_num, by omega, hI2, Nat.le_refl _⟩
              · have HA : Hid (eos.e1 = (na l eos (j + 1)).e1) := by show _ = _; rw [← HK3.out, na_end (by omega)]
                have HX : Hid (∀ w, Calls Tryz.prog 77 #[.int .i64 (cat l j).e1] w fun e w' => e = .returned (.bool (cat l j).isNI) ∧ w = w') := fun w => isNeutral_any _ w
                have HY : Hid (∀ w, Calls Tryz.prog 78 #[.int .i64 (cat l j).e1] w fun e w' => e = .returned (.int .i64 (ov1 (stg (cat l j)))) ∧ w = w') := fun w => strong_any _ w
                have bq2 : (sos.e1 == eos.e1) = decide (nb l sos j = na l eos (j + 1)) := by rw [HB.out, HA.out]; exact bq
                by_cases he : nb l sos j = na l eos (j + 1)
                · rw [decide_eq_true he] at bq2
                  have hI2 := hI.set2 hlt (dirOf lv) (nb l sos j) (by rw [hn12.out, if_pos he])
                  rw [← HB.out] at hI2
                  clear he bq
                  go_wp2_with (first | (go_at_call 77; refine (HX.out _).mono ?_; rintro e w' ⟨rfl, rfl⟩) | (go_at_call 78; refine (HY.out _).mono ?_; rintro e w' ⟨rfl, rfl⟩) | (go_at_call 68; refine (direction_any _ _ hl0 (by omega)).mono ?_; rintro e w' ⟨rfl, rfl⟩))
                  go_roundg (l.length + 1 - (j + 1))
                  case measure => have := hk.out; omega
                  case rel => exact ⟨j + 1, _, by go_num, by omega, hI2, Nat.le_refl _⟩
                · rw [decide_eq_false he] at bq2
                  have hI2 := hI.set hlt (dirOf lv) (by rw [hn12.out, if_neg he])
                  clear he bq
                  go_wp2_with (first | (go_at_call 77; refine (HX.out _).mono ?_; rintro e w' ⟨rfl, rfl⟩) | (go_at_call 78; refine (HY.out _).mono ?_; rintro e w' ⟨rfl, rfl⟩) | (go_at_call 68; refine (direction_any _ _ hl0 (by omega)).mono ?_; rintro e w' ⟨rfl, rfl⟩))
                  go_roundg (l.length + 1 - (j + 1))
                  case measure => have := hk.out; omega
                  case rel => exact ⟨j + 1, _, by go_num, by omega, hI2, Nat.le_refl _⟩
          | kk + 1, hkk, HK, hk2 =>
            rw [show ((kk + 1 : Nat) : Int) - 1 = kk by omega]
            have hcb := hT.out kk (by omega)
            have hkl : kk < l.length := by omega
            have hnk := Lib.hid (fun w => isNeutral_any (cat l kk) w)
            by_cases hkn : (cat l kk).isNI = true
            · have HK2 : Hid (nb l sos kk = nb l sos j) := by show _ = _; rw [← HK.out]; simp only [nb]; rw [if_pos hkn]
              rw [hkn] at hnk
              clear hkn
              go_wp2_with (go_at_call 77; refine (hnk.out _).mono ?_; rintro e w' ⟨rfl, rfl⟩)
              go_roundg (kk + 1)
              case measure => have := hk2.out; omega
              case rel => exact ⟨kk, by go_num, by omega, rfl, HK2, rfl, Nat.le_refl _⟩
            · have hkf : (cat l kk).isNI = false := by simpa using hkn
              have HB : Hid ((stR (cat l kk)).e1 = (nb l sos j).e1) := by show _ = _; rw [← HK.out]; simp only [nb]; rw [if_neg hkn]
              have hsg := Lib.hid (fun w => strong_any (cat l kk) w)
              rw [stg_isN (HN.out kk hkl) hkf] at hsg
              simp only [ov1] at hsg
              rw [hkf] at hnk
              clear hkn hkf
              go_wp2_with (first | (go_at_call 77; refine (hnk.out _).mono ?_; rintro e w' ⟨rfl, rfl⟩) | (go_at_call 78; refine (hsg.out _).mono ?_; rintro e w' ⟨rfl, rfl⟩))
              go_loopg [13, 15] (l.length + 1) (fun k b i wr => ∃ k3 : Nat, i = .int .i64 k3 ∧ k3 ≤ l.length ∧ b = .int .i64 eos.e1 ∧ Hid (na l eos k3 = na l eos (j + 1)) ∧ wo = wr ∧ Hid (l.length + 1 - k3 ≤ k))
              case atStart => exact ⟨j + 1, by go_num, by omega, rfl, rfl, rfl, (by omega : _ ≤ _)⟩
              case round =>
                obtain ⟨k3, rfl, hk3, rfl, HK3, rfl, hk4⟩ := hrel
                by_cases hk3l : k3 < l.length
                · have hcc := hT.out k3 hk3l
                  have HX := Lib.hid (fun w => isNeutral_any (cat l k3) w)
                  by_cases hkn : (cat l k3).isNI = true
                  · have HK5 : Hid (na l eos (k3 + 1) = na l eos (j + 1)) := by show _ = _; rw [← HK3.out, na_ni hk3l hkn]
                    rw [hkn] at HX
                    clear hkn
                    go_wp2_with (go_at_call 77; refine (HX.out _).mono ?_; rintro e w' ⟨rfl, rfl⟩)
                    go_roundg (l.length + 1 - (k3 + 1))
                    case measure => have := hk4.out; omega
                    case rel => exact ⟨k3 + 1, by go_num, by omega, rfl, HK5, rfl, Nat.le_refl _⟩
                  · have hkf : (cat l k3).isNI = false := by simpa using hkn
                    have HA : Hid ((stR (cat l k3)).e1 = (na l eos (j + 1)).e1) := by show _ = _; rw [← HK3.out, na_not hk3l hkf]
                    have HY := Lib.hid (fun w => strong_any (cat l k3) w)
                    rw [stg_isN (HN.out k3 hk3l) hkf] at HY
                    simp only [ov1] at HY
                    rw [hkf] at HX
                    clear hkn hkf
                    have bq2 : ((stR (cat l kk)).e1 == (stR (cat l k3)).e1) = decide (nb l sos j = na l eos (j + 1)) := by rw [HB.out, HA.out]; exact bq
                    by_cases he : nb l sos j = na l eos (j + 1)
                    · rw [decide_eq_true he] at bq2
                      have hI2 := hI.set2 hlt (dirOf lv) (nb l sos j) (by rw [hn12.out, if_pos he])
                      rw [← HB.out] at hI2
                      clear he bq
                      go_wp2_with (first | (go_at_call 77; refine (HX.out _).mono ?_; rintro e w' ⟨rfl, rfl⟩) | (go_at_call 78; refine (HY.out _).mono ?_; rintro e w' ⟨rfl, rfl⟩) | (go_at_call 68; refine (direction_any _ _ hl0 (by omega)).mono ?_; rintro e w' ⟨rfl, rfl⟩))
                      go_roundg (l.length + 1 - (j + 1))
                      case measure => have := hk.out; omega
                      case rel => exact ⟨j + 1, _, by go_num, by omega, hI2, Nat.le_refl _⟩
                    · rw [decide_eq_false he] at bq2
                      have hI2 := hI.set hlt (dirOf lv) (by rw [hn12.out, if_neg he])
                      clear he bq
                      go_wp2_with (first | (go_at_call 77; refine (HX.out _).mono ?_; rintro e w' ⟨rfl, rfl⟩) | (go_at_call 78; refine (HY.out _).mono ?_; rintro e w' ⟨rfl, rfl⟩) | (go_at_call 68; refine (direction_any _ _ hl0 (by omega)).mono ?_; rintro e w' ⟨rfl, rfl⟩))
                      go_roundg (l.length + 1 - (j + 1))
                      case measure => have := hk.out; omega
                      case rel => exact ⟨j + 1, _, by go_num, by omega, hI2, Nat.le_refl _⟩
                · have HA : Hid (eos.e1 = (na l eos (j + 1)).e1) := by show _ = _; rw [← HK3.out, na_end (by omega)]
                  have HX : Hid (∀ w, Calls Tryz.prog 77 #[.int .i64 (cat l j).e1] w fun e w' => e = .returned (.bool (cat l j).isNI) ∧ w = w') := fun w => isNeutral_any _ w
                  have HY : Hid (∀ w, Calls Tryz.prog 78 #[.int .i64 (cat l j).e1] w fun e w' => e = .returned (.int .i64 (ov1 (stg (cat l j)))) ∧ w = w') := fun w => strong_any _ w
                  have bq2 : ((stR (cat l kk)).e1 == eos.e1) = decide (nb l sos j = na l eos (j + 1)) := by rw [HB.out, HA.out]; exact bq
                  by_cases he : nb l sos j = na l eos (j + 1)
                  · rw [decide_eq_true he] at bq2
                    have hI2 := hI.set2 hlt (dirOf lv) (nb l sos j) (by rw [hn12.out, if_pos he])
                    rw [← HB.out] at hI2
                    clear he bq
                    go_wp2_with (first | (go_at_call 77; refine (HX.out _).mono ?_; rintro e w' ⟨rfl, rfl⟩) | (go_at_call 78; refine (HY.out _).mono ?_; rintro e w' ⟨rfl, rfl⟩) | (go_at_call 68; refine (direction_any _ _ hl0 (by omega)).mono ?_; rintro e w' ⟨rfl, rfl⟩))
                    go_roundg (l.length + 1 - (j + 1))
                    case measure => have := hk.out; omega
                    case rel => exact ⟨j + 1, _, by go_num, by omega, hI2, Nat.le_refl _⟩
                  · rw [decide_eq_false he] at bq2
                    have hI2 := hI.set hlt (dirOf lv) (by rw [hn12.out, if_neg he])
                    clear he bq
                    go_wp2_with (first | (go_at_call 77; refine (HX.out _).mono ?_; rintro e w' ⟨rfl, rfl⟩) | (go_at_call 78; refine (HY.out _).mono ?_; rintro e w' ⟨rfl, rfl⟩) | (go_at_call 68; refine (direction_any _ _ hl0 (by omega)).mono ?_; rintro e w' ⟨rfl, rfl⟩))
                    go_roundg (l.length + 1 - (j + 1))
                    case measure => have := hk.out; omega
                    case rel => exact ⟨j + 1, _, by go_num, by omega, hI2, Nat.le_refl _⟩
      · have hn0 : (cat l j).isNI = false := by simpa using hn
        have hI2 := hI.keep (by unfold n12; rw [if_neg hn])
        rw [hn0] at hni
        clear hn hn0
        go_wp2_with (go_at_call 77; refine (hni.out _).mono ?_; rintro e w' ⟨rfl, rfl⟩)
        go_roundg (l.length + 1 - (j + 1))
        case measure => have := hk.out; omega
        case rel => exact ⟨j + 1, m, by go_num, by omega, hI2, Nat.le_refl _⟩
    · obtain rfl : j = l.length := by omega
      have HE := Lib.hid hI.fin
      go_wp2
      go_ret
      exact ⟨g, ct, rfl, hg, by rw [neuS, ← HE.out]; exact hI.row, hu.step hI.up (fun x hx => by simp at hx; exact .inr (by omega))⟩
end Go.Proofs.YtjahmnenfknjgaaGreatDoor
