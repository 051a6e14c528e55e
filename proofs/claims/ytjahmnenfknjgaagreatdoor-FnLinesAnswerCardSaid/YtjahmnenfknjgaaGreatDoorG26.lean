/- The set's Resolved (X1 to I2), by its contract. -/
import Derived.Test.YtjahmnenfknjgaaGreatDoorG12
import Derived.Test.YtjahmnenfknjgaaGreatDoorG3
import Derived.Test.YtjahmnenfknjgaaGreatDoorG5
import Derived.Test.YtjahmnenfknjgaaGreatDoorG13
import Derived.Test.YtjahmnenfknjgaaGreatDoorG6
import Derived.Deep.RegionHeld3
import Derived.Deep.Cut
import Derived.Deep.DeepCutAuto
set_option linter.unusedVariables false
set_option linter.unusedSimpArgs false
namespace Go.Proofs.YtjahmnenfknjgaaGreatDoor
open Go.RowKit Go.Maps

/-- The types, those ahead of place j masked. -/
def mskI (lv : List Int) (T : List Cl) (j : Nat) : List Int := (List.range T.length).map fun q => if q < j ∧ nth lv q = -1 then -1 else (cat T q).e1
theorem mskI_length (lv : List Int) (T : List Cl) (j : Nat) : (mskI lv T j).length = T.length := by simp [mskI]
theorem nth_mskI {lv : List Int} {T : List Cl} {j q : Nat} (h : q < T.length) : nth (mskI lv T j) q = if q < j ∧ nth lv q = -1 then -1 else (cat T q).e1 := by simp [nth, mskI, h]
theorem mskI_zero (lv : List Int) (T : List Cl) : mskI lv T 0 = clsI T := by
  apply List.ext_getElem
  · simp [mskI, clsI]
  · intro i h1 h2
    rw [mskI_length] at h1
    rw [nth_eq, nth_eq, nth_mskI h1, nth_clsI h1, if_neg (by omega)]
theorem mskI_end (lv : List Int) (T : List Cl) : mskI lv T T.length = tyI lv T := by
  unfold mskI tyI
  exact List.map_congr_left fun q hq => by
    have : q < T.length := by simpa using hq
    simp [this]
theorem mskI_yes {lv : List Int} {T : List Cl} {j : Nat} (h : nth lv j = -1) : (mskI lv T j).set j (-1) = mskI lv T (j + 1) := by
  apply List.ext_getElem
  · simp [mskI]
  · intro i h1 h2
    rw [mskI_length] at h2
    rw [nth_eq, nth_eq, nth_mskI h2]
    by_cases e : i = j
    · have h3 : i < (mskI lv T j).length := by rw [mskI_length]; exact h2
      subst e
      rw [if_pos ⟨by omega, h⟩]; simp [nth, h3]
    · rw [show nth ((mskI lv T j).set j (-1)) i = nth (mskI lv T j) i from by simp [nth, List.getElem?_set_ne (fun h => e h.symm)], nth_mskI h2]
      by_cases e2 : i < j
      · simp [e2, show i < j + 1 by omega]
      · rw [if_neg (by omega), if_neg (by omega)]
theorem mskI_no {lv : List Int} {T : List Cl} {j : Nat} (h : nth lv j ≠ -1) : mskI lv T j = mskI lv T (j + 1) := by
  unfold mskI
  refine List.map_congr_left fun q hq => ?_
  by_cases e : q = j
  · subst e; simp [h]
  · by_cases e2 : q < j
    · simp [e2, show q < j + 1 by omega]
    · rw [if_neg (by omega), if_neg (by omega)]
theorem chRow_length (F : List Nat → Chn) (L : List Rn) : (chRow F L).length = L.length * 4 := by
  unfold chRow
  induction L with
  | nil => rfl
  | cons x L ih => simp only [List.flatMap_cons, List.length_append, ih, chCells, List.length_cons, List.length_nil]; omega
theorem chRow_at {F : List Nat → Chn} {L : List Rn} {j i : Nat} (hj : j < L.length) (hi : i < 4) : (chRow F L)[j * 4 + i]? = (chCells F L[j])[i]? := by
  have : chRow F L = chRow F (L.take j) ++ (chCells F L[j] ++ chRow F (L.drop (j + 1))) := by
    have h1 : L = L.take j ++ (L[j] :: L.drop (j + 1)) := by rw [← List.drop_eq_getElem_cons hj, List.take_append_drop]
    have h2 := congrArg (List.flatMap (chCells F)) h1
    rw [List.flatMap_append, List.flatMap_cons] at h2
    exact h2
  rw [this]
  have hl : (chRow F (L.take j)).length = j * 4 := by rw [chRow_length, List.length_take, Nat.min_eq_left (by omega)]
  rw [List.getElem?_append_right (by omega), hl, Nat.add_sub_cancel_left, List.getElem?_append_left (by simp [chCells]; omega)]
theorem ch_cell {w : World} {g : Nat} {F : List Nat → Chn} {L : List Rn} (h : Row w g 54 (chRow F L)) {j : Nat} (hj : j < L.length) :
    w.cell? ⟨g, j * 4, none⟩ = some (.slice (some ⟨L[j].g, 0, none⟩) L[j].r.length L[j].cap) ∧ w.cell? ⟨g, j * 4 + 1, none⟩ = some (.int .i64 (F L[j].r).lev) ∧ w.cell? ⟨g, j * 4 + 2, none⟩ = some (.int .i64 (F L[j].r).so.e1) ∧ w.cell? ⟨g, j * 4 + 3, none⟩ = some (.int .i64 (F L[j].r).eo.e1) := by
  have key : ∀ i, (hi : i < 4) → w.cell? ⟨g, j * 4 + i, none⟩ = (chCells F L[j])[i]? := fun i hi => by
    have hk : j * 4 + i < (chRow F L).length := by rw [chRow_length]; omega
    rw [h.cell _ hk, ← chRow_at hj hi, List.getElem?_eq_getElem hk]
  exact ⟨key 0 (by decide), key 1 (by decide), key 2 (by decide), key 3 (by decide)⟩
theorem Row.adds {w : World} {g : Nat} {ty : TypeId} {vs : List Value} (h : Row w g ty vs) : ∀ q u, vs[q]? = some u → w.cell? ((⟨g, 0, none⟩ : Addr).add q) = some u := by
  intro q u hq
  obtain ⟨hq1, hq2⟩ := List.getElem?_eq_some_iff.1 hq
  have := h.cell q hq1
  rw [← hq2, ← this, add_zero_off]
theorem scC_kept {T : List Cl} {pl : List Nat} {r : List Cl} {q : Nat} (hr : AllC Cl.p4 r) (h : (cat T q).isRem = false) : ∀ k, k ≤ r.length → (cat (scC T pl r k) q).isRem = false
  | 0, _ => h
  | k + 1, hk => by
    have ih := scC_kept (pl := pl) hr h k (by omega)
    unfold scC
    by_cases e : nat pl k = q
    · by_cases hq : q < (scC T pl r k).length
      · rw [show cat ((scC T pl r k).set (nat pl k) (cat r k)) q = cat r k from by rw [e]; simp [cat, hq]]
        have := hr k (by omega)
        rcases p4_cases this with e | e | e | e <;> rw [e] <;> rfl
      · rw [show cat ((scC T pl r k).set (nat pl k) (cat r k)) q = cat (scC T pl r k) q from by simp [cat, List.set_eq_of_length_le (show (scC T pl r k).length ≤ nat pl k by omega)]]
        exact ih
    · rw [show cat ((scC T pl r k).set (nat pl k) (cat r k)) q = cat (scC T pl r k) q from by simp [cat, List.getElem?_set_ne e]]
      exact ih
theorem xtop_lvS {cs : List Cl} {base : Int} (hb : base = 0 ∨ base = 1) (i : Nat) : 0 ≤ (xtop cs base i).lv ∧ (xtop cs base i).lv ≤ 125 := by
  have h := xs_ok cs hb i
  have key : ∀ s : XS, XOk base s → 0 ≤ s.top.lv ∧ s.top.lv ≤ 125 := fun s hs => by
    obtain ⟨e, r, _, h1, h2, h3⟩ := hs.top
    rw [h1]; omega
  unfold xtop; split
  · exact key _ h.end_
  · exact key _ h
theorem xlv_bounds {cs : List Cl} {base : Int} (hb : base = 0 ∨ base = 1) (i : Nat) : -1 ≤ xlv cs base i ∧ xlv cs base i ≤ 125 := by
  have := xtop_lvS (cs := cs) hb i
  unfold xlv; split
  · omega
  · split <;> omega
theorem xty_kept {cs : List Cl} {base : Int} (hb : base = 0 ∨ base = 1) {i : Nat} (h : xlv cs base i ≠ -1) : (xty cs base i).isRem = false := by
  have hr : (cat cs i).isRem = false := by
    unfold xlv at h
    cases hc : (cat cs i).isRem
    · rfl
    · rw [hc] at h; simp at h
  have h1 := xs_ok cs hb i
  have key : ∀ s : XS, XOk base s → ∀ c : Cl, c.isRem = false → (s.top.ov.getD c).isRem = false := fun s hs c hc => by
    obtain ⟨e, r, h0, h1, _⟩ := hs.top
    have := hs.ov e (by rw [h0]; simp)
    rw [h1]
    rcases this with e | e | e <;> rw [e]
    · exact hc
    · rfl
    · rfl
  unfold xty
  rw [hr]
  simp only [Bool.false_eq_true, if_false]
  split
  · rfl
  · unfold xtop; split
    · exact key _ h1.end_ _ hr
    · exact key _ h1 _ hr

/-- Two rows of the call's own; the second one's capacity is told. -/
def RetTwoC (w : World) (n : Nat) (xs ys : List Int) (e : Ending) (w' : World) : Prop :=
  ∃ g1 c1 g2 c2, n ≤ c2 ∧ e = .returned (.tuple #[.slice (some ⟨g1, 0, none⟩) n c1, .slice (some ⟨g2, 0, none⟩) n c2]) ∧ w.heap.size ≤ g1 ∧ w.heap.size ≤ g2 ∧ g1 ≠ g2 ∧ Row w' g1 3 (nums .i64 xs) ∧ Row w' g2 3 (nums .i64 ys) ∧ Upd [] w w'

set_option maxHeartbeats 8000000 in
set_option maxRecDepth 100000 in
theorem sResolved_anyC (A1 A2 : Option Addr) (c1 c2 : Nat) (cs : List Cl) (br : List Int) (base : Int) (w : World) (hc : Rd w A1 (nums .i64 (clsI cs))) (hbr : Rd w A2 (nums .i64 br)) (hn : br.length = cs.length) (h0 : 0 < cs.length) (hm : cs.length ≤ 2147483647) (hbase : base = 0 ∨ base = 1)
    (hv : ∀ j, j < br.length → -1114111 ≤ nth br j ∧ nth br j ≤ 1114111) (ho : opc br cs.length ≤ 63) :
    Calls Tryz.prog 9 #[.slice A1 cs.length c1, .slice A2 cs.length c2, .int .i64 base] w (RetTwoC w cs.length (tyI (lvs cs base) (resolved cs br base).1) (resolved cs br base).2) := by
  obtain ⟨i0, hi', hz0, hz1, hz2⟩ := info_parts info3
  have HEX := Lib.hid (sExplicit_any A1 c1 cs base w hc h0 hm hbase)
  have HCH := Lib.hid (fun A2 c2 w h1 h2 => sChains_any A1 A2 c1 c2 cs (lvs cs base) base w h1 h2 (by rw [lvs_length]) (by omega) (by omega) (fun q hq => by rw [lvs_length] at hq; rw [nth_lvs hq]; have := xlv_bounds (cs := cs) hbase q; omega) (by rw [lvs_length]; exact hm))
  go_enter Tryz.func9, Tryz.ntmps9
  go_wp2_with (first
    | (go_at_call 32; refine HEX.out.mono ?_; rintro e w1 ⟨g1, k1, g2, k2, rfl, hg1, hg2, hg12, hr1, hr2, hu1⟩)
    | (at_builtin; refine wpList_append_two _ rfl (.tmp 24) (.tmp 25) 22 rfl w.heap.size 3 i0 (.int .i64 0) 1 8 Tryz.underlying22 hi' hz0 hz1 hz2 rfl (by decide) w1.heap.size 0 0 [] rfl (World.ownsRow_lit (base := w.heap.size) (e := 3) (size := 1) w1 #[] 0 hu1.size (by decide) rfl) ⟨g1, 0, none⟩ cs.length k1 (nums .i64 (lvs cs base)) rfl (by rw [nums_length, lvs_length]; omega) (hr1.alloc _).adds (nums_one _ _) (by unfold maxLen; omega) (by omega) (by simp; have := hu1.size; omega) ?_
       intro g3 k3 w2 hown2 hgrow2 hg3))
  have hs1 : Row w2 g1 3 (nums .i64 (lvs cs base)) := (hr1.alloc _).grown hgrow2 (by intro e; have := Option.some.inj e; have := hr1.lt; omega)
  have hs2 : Row w2 g2 3 (nums .i64 (mskI (lvs cs base) (tys cs base) 0)) := by rw [mskI_zero]; exact (hr2.alloc _).grown hgrow2 (by intro e; have := Option.some.inj e; have := hr2.lt; omega)
  have hs3 : Row w2 g3 3 (nums .i64 (lvs cs base)) := by have := Row.of_owns hown2; simpa using this
  have hu2 : Upd [] w w2 := (hu1.alloc _).grown hgrow2 (fun k e => by cases e; exact .inr hu1.size)
  have hg3w := (hown2.lt g3 rfl).1
  have HK3 : Hid (cs.length ≤ k3) := by have := owns_cap hown2; show _ ≤ _; omega
  have hg31 : g3 ≠ g1 := by have := hr1.lt; simp at hg3; omega
  have hg32 : g3 ≠ g2 := by have := hr2.lt; simp at hg3; omega
  have hlv : (lvs cs base).length = cs.length := lvs_length _ _
  have hT : (tys cs base).length = cs.length := tys_length _ _
  have HRES : Hid (resolved cs br base = rsv br (tys cs base, lvs cs base) (chains cs (lvs cs base) base)) := rfl
  have HK : Hid (∀ q, q < cs.length → -1 ≤ nth (lvs cs base) q ∧ nth (lvs cs base) q ≤ 125 ∧ (nth (lvs cs base) q ≠ -1 → (cat (tys cs base) q).isRem = false)) := fun q hq => by
    have h1 := xlv_bounds (cs := cs) hbase q
    rw [nth_lvs hq, cat_tys hq]
    exact ⟨h1.1, h1.2, xty_kept hbase⟩
  generalize lvs cs base = lv at *
  generalize tys cs base = T at *
  clear hr1 hr2 hown2 hgrow2 hu1 HEX hg3
  go_loopg [29] (cs.length + 1) (fun k i wr => ∃ (j : Nat), i = .int .i64 j ∧ j ≤ cs.length ∧ Row wr g2 3 (nums .i64 (mskI lv T j)) ∧ Row wr g1 3 (nums .i64 lv) ∧ Row wr g3 3 (nums .i64 lv) ∧ Upd [] w wr ∧ Hid (cs.length + 1 - j ≤ k))
  case atStart => exact ⟨0, rfl, by omega, hs2, hs1, hs3, hu2, Nat.le_refl _⟩
  case round =>
    obtain ⟨j, rfl, hj, hm2, hm1, hm3, hu, hk⟩ := hrel
    by_cases hlt : j < cs.length
    · have hc1 := hm1.num j (by omega)
      have hc2 := hm2.num j (by rw [mskI_length]; omega)
      have hf2 := hm2.free j
      by_cases hx : nth lv j = -1
      · have b1 : (nth lv j == -1) = true := by simpa using hx
        have HM := Lib.hid (mskI_yes (T := T) hx)
        clear hx
        go_wp2
        go_roundg (cs.length + 1 - (j + 1))
        case measure => have := hk.out; omega
        case rel => exact ⟨j + 1, by go_num, by omega, by rw [← HM.out]; exact hm2.setNum j (-1) (by rw [mskI_length]; omega), hm1.other (p := ⟨g2, j, none⟩) hg12 _, hm3.other (p := ⟨g2, j, none⟩) hg32 _, hu.setCell (p := ⟨g2, j, none⟩) (.inr hg2) _, Nat.le_refl _⟩
      · have b1 : (nth lv j == -1) = false := by simpa using hx
        have HM := Lib.hid (mskI_no (T := T) hx)
        clear hx
        go_wp2
        go_roundg (cs.length + 1 - (j + 1))
        case measure => have := hk.out; omega
        case rel => exact ⟨j + 1, by go_num, by omega, by rw [← HM.out]; exact hm2, hm1, hm3, hu, Nat.le_refl _⟩
    · have hm2' : Row wr g2 3 (nums .i64 (tyI lv T)) := by
        rw [show j = T.length by omega, mskI_end] at hm2; exact hm2
      clear hm2 hs1 hs2 hs3 hu2
      go_wp2_with (go_at_call 33; rw [← hlv]; refine (HCH.out _ _ _ (hc.keep hu) (Rd.of_row hm1)).mono ?_; rintro e wq ⟨gc, kc, L, rfl, hLr, hownc, hrunc, huc⟩; rw [hlv])
      have hB2 := hm2'.lt
      have hB3 := hm3.lt
      have hw0 : w.heap.size ≤ wr.heap.size := hu.size
      have hs2 := hm2'.upd huc (by simp)
      have hs3 := hm3.upd huc (by simp)
      have hsu := hu.then huc
      have hsc := Row.of_owns hownc
      have hgc := (hownc.lt gc rfl).1
      have HLr := Lib.hid hLr
      have hLlen : L.length ≤ cs.length := by
        have h1 := jst_len cs (runs lv) (runs lv).length
        have h2 : (runs lv).length ≤ lv.length := rst_len lv lv.length
        have h3 : L.length = (joined cs lv).length := by rw [← hLr]; simp
        unfold joined at h3; omega
      have HK0 : Hid (∀ q, q < cs.length → nth lv q ≠ -1 → (cat T q).isRem = false) := fun q hq => (HK.out q hq).2.2
      have hsuz := hsu.size
      generalize hBB : wr.heap.size = B at *
      clear hm1 hm2' hm3 hu huc hownc hLr HCH hBB hk hj hlt
      go_loopg [46] (L.length + 1) (fun k i wr => ∃ (j : Nat) (T' : List Cl) (V : List Int), i = .int .i64 j ∧ j ≤ L.length ∧ T'.length = cs.length ∧ V.length = cs.length ∧ Row wr g2 3 (nums .i64 (tyI lv T')) ∧ Row wr g3 3 (nums .i64 V) ∧ Row wr gc 54 (chRow (chnOf cs lv base) L) ∧ RunsIn wr B L ∧ Upd [] w wr ∧
        Hid (rsv br (T, lv) ((chains cs lv base).take j) = (T', V)) ∧ Hid (∀ q, q < cs.length → nth lv q ≠ -1 → (cat T' q).isRem = false) ∧ Hid (L.length + 1 - j ≤ k))
      case atStart => exact ⟨0, T, lv, rfl, by omega, hT, hlv, hs2, hs3, hsc, hrunc, hsu, rfl, HK0, Nat.le_refl _⟩
      case round =>
        clear hs2 hs3 hsc hrunc hsu HK0
        obtain ⟨j, T', V, rfl, hj, hT', hV, hm2, hm3, hmc, hL, hu, HS, HT, hk⟩ := hrel
        by_cases hlt : j < L.length
        · have hrs : L[j].r ∈ joined cs lv := by rw [← HLr.out]; exact List.mem_map.2 ⟨_, List.getElem_mem hlt, rfl⟩
          obtain ⟨hr1, hr2⟩ := joined_mem hrs
          have hr3 := joined_len hrs
          have hop := hop_of (br := br) hrs (by rw [hlv]; exact ho)
          obtain ⟨d0, d1, d2, d3⟩ := ch_cell hmc hlt
          have hyo := hL.own _ (List.getElem_mem hlt)
          have hy := hyo.row
          have hyB := hyo.lt
          have HC : Hid (chnOf cs lv base L[j].r = chnOf cs lv base L[j].r) := rfl
          have hcpl : (chnOf cs lv base L[j].r).pl = L[j].r := rfl
          have hclev : (chnOf cs lv base L[j].r).lev = nth lv (nat L[j].r 0) := rfl
          have hcso : (chnOf cs lv base L[j].r).so = .L ∨ (chnOf cs lv base L[j].r).so = .R := dirOf_strong _
          have hlen := List.length_pos_iff.2 hr1
          have hlev : 0 ≤ (chnOf cs lv base L[j].r).lev ∧ (chnOf cs lv base L[j].r).lev ≤ 125 := by
            have h1 := hr2 _ (head_mem hr1)
            have h2 := HK.out _ (hlv ▸ h1.1)
            rw [hclev]; omega
          have HSN : Hid (rsv br (T, lv) ((chains cs lv base).take (j + 1)) = rstp br (T', V) (chnOf cs lv base L[j].r)) := by
            have hjl : j < (chains cs lv base).length := by unfold chains; rw [List.length_map, ← HLr.out, List.length_map]; exact hlt
            show _ = _
            rw [List.take_succ_eq_append_getElem hjl]
            unfold rsv at HS ⊢
            rw [List.foldl_append, HS.out]
            have : (chains cs lv base)[j] = chnOf cs lv base L[j].r := by
              simp only [chains, List.getElem_map, ← HLr.out]
            simp [this]
          have hr2' : ∀ q, q ∈ L[j].r → q < T'.length ∧ nth lv q ≠ -1 := fun q hq => ⟨by rw [hT', ← hlv]; exact (hr2 q hq).1, (hr2 q hq).2⟩
          have hpk := pick_tyI hr2'
          have hin : ∀ i, i < L[j].r.length → nat L[j].r i < cs.length ∧ nth lv (nat L[j].r i) ≠ -1 := fun i hi => by
            have := hr2' (nat L[j].r i) (by rw [← nat_eq hi]; exact List.getElem_mem hi)
            rw [hT'] at this; exact this
          have TK1 : Hid (∀ wx, Row wx g2 3 (nums .i64 (tyI lv T')) → Row wx L[j].g 3 (nums .i64 (nats L[j].r)) → Calls Tryz.prog 15 #[.slice (some ⟨g2, 0, none⟩) cs.length k2, .slice (some ⟨L[j].g, 0, none⟩) L[j].r.length L[j].cap] wx (RetRow wx 3 L[j].r.length (nums .i64 (clsI (cIni T' L[j].r))))) := fun wx h h' => by
            have := take_any (some ⟨g2, 0, none⟩) (some ⟨L[j].g, 0, none⟩) k2 L[j].cap (tyI lv T') L[j].r wx (Rd.of_row h) (Rd.of_row h') (fun i hi => by rw [tyI_length, hT']; exact (hin i hi).1) hlen (by omega) (by rw [tyI_length]; omega)
            rw [tyI_length, hT', hpk] at this; exact this
          have TK2 : Hid (∀ wx, Rd wx A2 (nums .i64 br) → Row wx L[j].g 3 (nums .i64 (nats L[j].r)) → Calls Tryz.prog 15 #[.slice A2 cs.length c2, .slice (some ⟨L[j].g, 0, none⟩) L[j].r.length L[j].cap] wx (RetRow wx 3 L[j].r.length (nums .i64 (pick br L[j].r)))) := fun wx h h' => by
            have := take_any A2 (some ⟨L[j].g, 0, none⟩) c2 L[j].cap br L[j].r wx h (Rd.of_row h') (fun i hi => by rw [hn]; exact (hin i hi).1) hlen (by omega) (by omega)
            rw [hn] at this; exact this
          have hil : (cIni T' L[j].r).length = L[j].r.length := by simp [cIni]
          have hp0 : AllC Cl.p0 (cIni T' L[j].r) := fun q hq => by
            rw [hil] at hq
            have : cat (cIni T' L[j].r) q = cat T' (nat L[j].r q) := by simp [cIni, cat, nat, hq]
            rw [this]
            have h1 := HT.out _ (hin q hq).1 (hin q hq).2
            simp [Cl.p0, h1]
          generalize hini : cIni T' L[j].r = ini at *
          generalize hch : chnOf cs lv base L[j].r = ch at *
          have hres : cRes T' br ch = neuS (brS (weakS ini ch.so) ini (pick br L[j].r) ch.lev ch.so) ch.lev ch.so ch.eo := by rw [← hini, ← hcpl]; rfl
          have hW := weakS_isN hp0 hcso
          have hBn := brS_isN (ini := ini) (br := pick br L[j].r) (level := ch.lev) hW hcso
          have hN4 := neuS_p4 (level := ch.lev) (eos := ch.eo) hBn hcso
          rw [← hres] at hN4
          have hWl : (weakS ini ch.so).length = L[j].r.length := by rw [weakS_length, hil]
          have hBl : (brS (weakS ini ch.so) ini (pick br L[j].r) ch.lev ch.so).length = L[j].r.length := by rw [brS_length, hWl]
          have hNl : (cRes T' br ch).length = L[j].r.length := by rw [hres, neuS_length, hBl]
          have hpl : (pick br L[j].r).length = L[j].r.length := pick_length _ _
          have WK : Hid (∀ wx g c, Row wx g 3 (nums .i64 (clsI ini)) → Calls Tryz.prog 34 #[.slice (some ⟨g, 0, none⟩) L[j].r.length c, .int .i64 ch.so.e1] wx (RetRow wx 3 L[j].r.length (nums .i64 (clsI (weakS ini ch.so))))) := fun wx g c h => by
            have := sWeak_any (some ⟨g, 0, none⟩) c ini ch.so wx (Rd.of_row h) (by omega) (by omega)
            rw [hil] at this; exact this
          have BK : Hid (∀ wx ga ca gb cb gd cd, Row wx ga 3 (nums .i64 (clsI (weakS ini ch.so))) → Row wx gb 3 (nums .i64 (clsI ini)) → Row wx gd 3 (nums .i64 (pick br L[j].r)) → Calls Tryz.prog 35 #[.slice (some ⟨ga, 0, none⟩) L[j].r.length ca, .slice (some ⟨gb, 0, none⟩) L[j].r.length cb, .slice (some ⟨gd, 0, none⟩) L[j].r.length cd, .int .i64 ch.lev, .int .i64 ch.so.e1] wx
              (RetRow wx 3 L[j].r.length (nums .i64 (clsI (brS (weakS ini ch.so) ini (pick br L[j].r) ch.lev ch.so))))) := fun wx ga ca gb cb gd cd h1 h2 h3 => by
            have := sBrackets_any (some ⟨ga, 0, none⟩) (some ⟨gb, 0, none⟩) (some ⟨gd, 0, none⟩) ca cb cd (weakS ini ch.so) ini (pick br L[j].r) ch.lev ch.so wx (Rd.of_row h1) (Rd.of_row h2) (Rd.of_row h3) (by omega) (by omega)
              (fun q hq => by
                rw [hWl] at hq
                have e : nth (pick br L[j].r) q = nth br (nat L[j].r q) := by simp [nth, pick, nat, hq]
                rw [e]; exact hv _ (by rw [hn]; exact (hin q hq).1))
              (fun q hq _ hp => hop _ q (by omega) hp) (by omega) hlev.1 hlev.2 (by omega)
            rw [hWl] at this; exact this
          have NK : Hid (∀ wx g c, Row wx g 3 (nums .i64 (clsI (brS (weakS ini ch.so) ini (pick br L[j].r) ch.lev ch.so))) → Calls Tryz.prog 36 #[.slice (some ⟨g, 0, none⟩) L[j].r.length c, .int .i64 ch.lev, .int .i64 ch.so.e1, .int .i64 ch.eo.e1] wx (RetRow wx 3 L[j].r.length (nums .i64 (clsI (cRes T' br ch))))) := fun wx g c h => by
            have := sNeutral_any (some ⟨g, 0, none⟩) c (brS (weakS ini ch.so) ini (pick br L[j].r) ch.lev ch.so) ch.lev ch.so ch.eo wx (Rd.of_row h) hBn (by omega) hlev.1 hlev.2 (by omega)
            rw [hBl, ← hres] at this; exact this
          have IK : Hid (∀ wx g c, Row wx g 3 (nums .i64 (clsI (cRes T' br ch))) → Calls Tryz.prog 37 #[.slice (some ⟨g, 0, none⟩) L[j].r.length c, .int .i64 ch.lev] wx (RetRow wx 3 L[j].r.length (nums .i64 (impS (cRes T' br ch) ch.lev)))) := fun wx g c h => by
            have := sImplicit_any (some ⟨g, 0, none⟩) c (cRes T' br ch) ch.lev wx (Rd.of_row h) (fun q hq => p4_cases (hN4 q hq)) (by omega) hlev.1 hlev.2 (by omega)
            rw [hNl] at this; exact this
          have HN4 := Lib.hid hN4
          have HIN := Lib.hid hin
          have HW : Hid (∃ W, W = weakS ini ch.so) := ⟨_, rfl⟩
          have HB : Hid (∃ BR, BR = brS (weakS ini ch.so) ini (pick br L[j].r) ch.lev ch.so) := ⟨_, rfl⟩
          have HNL := Lib.hid hNl
          have HPL := Lib.hid hcpl
          clear hN4 hin hres hW hBn hp0 hop hpk hr2' hr2 hr1 hrs hini hclev hcpl hWl hBl hNl hpl hch hcso hv hil hbase hn
          have HD : Hid (∀ wx, Upd [] (wr.alloc (Obj.cells #[.slice (some ⟨L[j].g, 0, none⟩) L[j].r.length L[j].cap, .int .i64 ch.lev, .int .i64 ch.so.e1, .int .i64 ch.eo.e1] 54)) wx → wx.cell? ⟨wr.heap.size, 0, none⟩ = some (.slice (some ⟨L[j].g, 0, none⟩) L[j].r.length L[j].cap) ∧ wx.cell? ⟨wr.heap.size, 1, none⟩ = some (.int .i64 ch.lev) ∧ wx.cell? ⟨wr.heap.size, 2, none⟩ = some (.int .i64 ch.so.e1) ∧ wx.cell? ⟨wr.heap.size, 3, none⟩ = some (.int .i64 ch.eo.e1)) := fun wx h => by
            have h1 := (Row.new wr 54 [.slice (some ⟨L[j].g, 0, none⟩) L[j].r.length L[j].cap, .int .i64 ch.lev, .int .i64 ch.so.e1, .int .i64 ch.eo.e1]).upd h (by simp)
            exact ⟨h1.cell 0 (by simp), h1.cell 1 (by simp), h1.cell 2 (by simp), h1.cell 3 (by simp)⟩
          go_upto_region 14 with (first
            | (go_at_call 15; refine (TK1.out _ (hm2.alloc _) (hy.alloc _)).mono ?_; rintro e w3 ⟨ga, ca, rfl, hga, hra, hua⟩; obtain ⟨x0, x1, x2, x3⟩ := HD.out _ hua)
            | (go_at_call 34; refine (WK.out _ _ _ hra).mono ?_; rintro e w4 ⟨gb, cb, rfl, hgb, hrb, hub⟩; clear x0 x1 x2 x3; have hu4 := hua.then hub; obtain ⟨x0, x1, x2, x3⟩ := HD.out _ hu4))
          have hu04 : Upd [] w w4 := (hu.alloc _).then hu4
          have hyd : Row w4 L[j].g 3 (nums .i64 (nats L[j].r)) := (hy.alloc _).upd hu4 (by simp)
          have hra4 := hra.upd hub (by simp)
          go_region_held3 (fun w' => w'.cell? ⟨wr.heap.size, 0, none⟩ = some (.slice (some ⟨L[j].g, 0, none⟩) L[j].r.length L[j].cap) ∧ w'.cell? ⟨wr.heap.size, 1, none⟩ = some (.int .i64 ch.lev) ∧ w'.cell? ⟨wr.heap.size, 2, none⟩ = some (.int .i64 ch.so.e1))
            (first | exact ⟨x0, x1, x2⟩ | exact ⟨y0, y1, y2⟩ | exact ⟨z0, z1, z2⟩)
            (first
              | (go_at_call 15; refine (TK2.out _ (hbr.keep hu04.drew) hyd.drew).mono ?_; rintro e w5 ⟨gd, cd, rfl, hgd, hrd, hud⟩; have hu5 := hu4.drew.then hud; obtain ⟨y0, y1, y2, y3⟩ := HD.out _ hu5)
              | (go_at_call 35; refine (BK.out _ _ _ _ _ _ _ (hrb.drew.upd hud (by simp)) (hra4.drew.upd hud (by simp)) hrd).mono ?_; rintro e w6 ⟨ge, ce, rfl, hge, hre, hue⟩; have hu6 := hu5.then hue; obtain ⟨z0, z1, z2, z3⟩ := HD.out _ hu6))
          go_wp2_with (first
            | (go_at_call 36; refine (NK.out _ _ _ hre).mono ?_; rintro e w7 ⟨gf, cf, rfl, hgf, hrf, huf⟩; have hu7 := hu6.then huf; obtain ⟨t0, t1, t2, t3⟩ := HD.out _ hu7)
            | (go_at_call 37; refine (IK.out _ _ _ hrf).mono ?_; rintro e w8 ⟨gh, ch', rfl, hgh, hrh, huh⟩; have hu8 := hu7.then huh; obtain ⟨v0, v1, v2, v3⟩ := HD.out _ hu8))
          have hu08 : Upd [] w w8 := (hu.alloc _).then hu8
          have e2 := (hm2.alloc _).upd hu8 (by simp)
          have e3 := (hm3.alloc _).upd hu8 (by simp)
          have ey := (hy.alloc _).upd hu8 (by simp)
          have ef := hrf.upd huh (by simp)
          have ec := (hmc.alloc _).upd hu8 (by simp)
          have eL := (hL.alloc _).keep hu8
          have hB0 : B ≤ wr.heap.size := by omega
          have hz3 := hua.size
          have hz4 := hub.size
          have hz5 := hud.size
          have hz6 := hue.size
          have hz7 := huf.size
          simp only [World.size_alloc, World.size_drew] at hz3 hz4 hz5 hz6 hz7
          have nd2 : wr.heap.size ≠ g2 := by omega
          have nd3 : wr.heap.size ≠ g3 := by omega
          have ny2 : L[j].g ≠ g2 := by omega
          have ny3 : L[j].g ≠ g3 := by omega
          have nf2 : gf ≠ g2 := by omega
          have nf3 : gf ≠ g3 := by omega
          have nh2 : gh ≠ g2 := by omega
          have nh3 : gh ≠ g3 := by omega
          have nc2 : gc ≠ g2 := by omega
          have nc3 : gc ≠ g3 := by omega
          generalize hdb : wr.heap.size = db at *
          clear x0 x1 x2 x3 y0 y1 y2 y3 z0 z1 z2 z3 t0 t1 t2 t3 HD hua hub hud hue huf huh hu4 hu5 hu6 hu7 hu8 hu04 hm2 hm3 hmc hy hyd hra hra4 hrb hrd hre hrf hga hgb hgd hge hgf hgh hz3 hz4 hz5 hz6 hz7 hL hyo d0 d1 d2 d3 hu TK2 BK WK NK IK TK1 hdb hB0
          go_loopg [82] (L[j].r.length + 1) (fun k i wi => ∃ (q : Nat), i = .int .i64 q ∧ q ≤ L[j].r.length ∧ Row wi g2 3 (nums .i64 (tyI lv (scC T' L[j].r (cRes T' br ch) q))) ∧ Row wi g3 3 (nums .i64 (scI V L[j].r (impS (cRes T' br ch) ch.lev) q)) ∧ Upd [g2, g3] w8 wi ∧ Hid (L[j].r.length + 1 - q ≤ k))
          case atStart => exact ⟨0, rfl, by omega, e2, e3, Upd.refl _ _, Nat.le_refl _⟩
          case round =>
            obtain ⟨q, rfl, hq, m2, m3, hu2, hk2⟩ := hrel
            by_cases hqt : q < L[j].r.length
            · obtain ⟨hp1, hp2⟩ := HIN.out q hqt
              have hNl := HNL.out
              have s0 := hu2.cell v0 (by simp [nd2, nd3])
              have sy := (ey.upd hu2 (by simp [ny2, ny3])).num q (by simp [nats]; exact hqt)
              rw [nth_nats hqt] at sy
              have sf := (ef.upd hu2 (by simp [nf2, nf3])).num q (by rw [clsI_length, hNl]; exact hqt)
              rw [nth_clsI (by omega)] at sf
              have sh := (hrh.upd hu2 (by simp [nh2, nh3])).num q (by rw [impS_length, hNl]; exact hqt)
              have c2 := m2.num (nat L[j].r q) (by rw [tyI_length, scC_length]; omega)
              have f2 := m2.free (nat L[j].r q)
              have c3 := m3.num (nat L[j].r q) (by rw [scI_length]; omega)
              have f3 := m3.free (nat L[j].r q)
              have M2 := Lib.hid (tyI_set (lv := lv) (T := scC T' L[j].r (cRes T' br ch) q) (x := cat (cRes T' br ch) q) hp2)
              generalize hpp : nat L[j].r q = p at *
              have HPP := Lib.hid hpp
              generalize hx1 : (cat (cRes T' br ch) q).e1 = x1 at *
              have HX1 := Lib.hid hx1
              generalize hx2 : nth (impS (cRes T' br ch) ch.lev) q = x2 at *
              have HX2 := Lib.hid hx2
              generalize nth (tyI lv (scC T' L[j].r (cRes T' br ch) q)) p = z1 at *
              generalize nth (scI V L[j].r (impS (cRes T' br ch) ch.lev) q) p = z2 at *
              clear hpp hx1 hx2 hp2 hNl
              go_wp2
              go_region
              all_goals (try go_wp2)
              go_roundg (L[j].r.length + 1 - (q + 1))
              case measure => have := hk2.out; omega
              case rel =>
                have e4 : Row ((wr.setCell ⟨g2, p, none⟩ (.int .i64 x1)).setCell ⟨g3, p, none⟩ (.int .i64 x2)).drew g2 3 (nums .i64 (tyI lv (scC T' L[j].r (cRes T' br ch) (q + 1)))) := by
                  have := (m2.setNum p x1 (by rw [tyI_length, scC_length]; omega)).other (p := ⟨g3, p, none⟩) (fun e => hg32 e.symm) (.int .i64 x2)
                  rw [M2.out] at this
                  have e5 : scC T' L[j].r (cRes T' br ch) (q + 1) = (scC T' L[j].r (cRes T' br ch) q).set p (cat (cRes T' br ch) q) := by rw [← HPP.out]; rfl
                  rw [e5]; exact this.drew
                have e6 : Row ((wr.setCell ⟨g2, p, none⟩ (.int .i64 x1)).setCell ⟨g3, p, none⟩ (.int .i64 x2)).drew g3 3 (nums .i64 (scI V L[j].r (impS (cRes T' br ch) ch.lev) (q + 1))) := by
                  have := (m3.other (p := ⟨g2, p, none⟩) hg32 (.int .i64 x1)).setNum p x2 (by rw [scI_length]; omega)
                  have e5 : scI V L[j].r (impS (cRes T' br ch) ch.lev) (q + 1) = (scI V L[j].r (impS (cRes T' br ch) ch.lev) q).set p x2 := by rw [← HPP.out, ← HX2.out]; rfl
                  rw [e5]; exact this.drew
                exact ⟨q + 1, by go_num, by omega, e4, e6, ((hu2.setCell (p := ⟨g2, p, none⟩) (.inl (by simp)) _).setCell (p := ⟨g3, p, none⟩) (.inl (by simp)) _).drew, Nat.le_refl _⟩
            · obtain rfl : q = L[j].r.length := by omega
              have hfin2 : Row wr gc 54 (chRow (chnOf cs lv base) L) := ec.upd hu2 (by simp [nc2, nc3])
              have hfin3 : RunsIn wr B L := eL.upd hu2 (fun x hx => by have := (eL.own x hx).lt.1; simp; omega)
              have hfin4 : Upd [] w wr := hu08.step hu2 (fun t ht => by simp at ht; rcases ht with e | e <;> subst e <;> exact .inr (by assumption))
              have HFN : Hid (rsv br (T, lv) ((chains cs lv base).take (j + 1)) = (scC T' L[j].r (cRes T' br ch) L[j].r.length, scI V L[j].r (impS (cRes T' br ch) ch.lev) L[j].r.length)) := by
                show _ = _
                rw [HSN.out]; unfold rstp; simp only [HPL.out]
              have HKN : Hid (∀ q, q < cs.length → nth lv q ≠ -1 → (cat (scC T' L[j].r (cRes T' br ch) L[j].r.length) q).isRem = false) := fun q hq h9 => scC_kept HN4.out (HT.out q hq h9) _ (by have := HNL.out; omega)
              have h91 : (scC T' L[j].r (cRes T' br ch) L[j].r.length).length = cs.length := by rw [scC_length]; exact hT'
              have h92 : (scI V L[j].r (impS (cRes T' br ch) ch.lev) L[j].r.length).length = cs.length := by rw [scI_length]; exact hV
              generalize scC T' L[j].r (cRes T' br ch) L[j].r.length = T9 at *
              generalize scI V L[j].r (impS (cRes T' br ch) ch.lev) L[j].r.length = V9 at *
              clear ec eL hu08 hu2 v0 v1 v2 v3 e2 e3 ey ef hrh
              go_wp2
              go_roundg (L.length + 1 - (j + 1))
              case measure => have := hk.out; omega
              case rel => exact ⟨j + 1, T9, V9, by go_num, by omega, h91, h92, m2, m3, hfin2, hfin3, hfin4, HFN, HKN, Nat.le_refl _⟩
        · have HE : Hid (resolved cs br base = (T', V)) := by
            obtain rfl : j = L.length := by omega
            show _ = _
            rw [HRES.out, ← HS.out, List.take_of_length_le]
            unfold chains; rw [List.length_map, ← HLr.out, List.length_map]; exact Nat.le_refl _
          have HM2 : Row wr g2 3 (nums .i64 (tyI lv (resolved cs br base).1)) := by rw [HE.out]; exact hm2
          have HM3 : Row wr g3 3 (nums .i64 (resolved cs br base).2) := by rw [HE.out]; exact hm3
          clear hm2 hm3
          go_wp2
          go_ret2
          exact ⟨g2, k2, g3, k3, HK3.out, rfl, hg2, hg3w, fun e => hg32 e.symm, HM2, HM3, hu⟩
end Go.Proofs.YtjahmnenfknjgaaGreatDoor
