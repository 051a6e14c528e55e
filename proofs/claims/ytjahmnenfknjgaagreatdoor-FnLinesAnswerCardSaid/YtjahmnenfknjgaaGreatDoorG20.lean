/- assignBracketType and resolveBrackets, each by its contract. -/
import Derived.Test.YtjahmnenfknjgaaGreatDoorG16
import Derived.Test.YtjahmnenfknjgaaGreatDoorG17
import Derived.Test.YtjahmnenfknjgaaGreatDoorG6
import Derived.Test.YtjahmnenfknjgaaGreatDoorG19
set_option linter.unusedVariables false
set_option linter.unusedSimpArgs false
namespace Go.Proofs.YtjahmnenfknjgaaGreatDoor
open Go.RowKit

/-! ### What a pair holds, in the reference's words -/
theorem stp_cases (c : Cl) : stp c = .L ∨ stp c = .R ∨ stp c = .ON := by cases c <;> simp [stp]
theorem clsf_same {l : List Cl} {way : Cl} : ∀ (f i : Nat) (acc : Cl), (∃ j, i ≤ j ∧ j < i + f ∧ stp (cat l j) = way) → way ≠ .ON → clsf l way f i acc = way
  | 0, i, acc, ⟨j, h1, h2, _⟩, _ => by omega
  | f + 1, i, acc, ⟨j, h1, h2, h3⟩, hw => by
    unfold clsf
    by_cases e : j = i
    · subst e; rw [if_neg (by rw [h3]; exact hw), if_pos h3]
    · have ih := fun a => clsf_same (l := l) (way := way) f (i + 1) a ⟨j, by omega, by omega, h3⟩ hw
      split
      · exact ih _
      · split
        · rfl
        · exact ih _
theorem clsf_none {l : List Cl} {way : Cl} : ∀ (f i : Nat) (acc : Cl), (∀ j, i ≤ j → j < i + f → stp (cat l j) = .ON) → clsf l way f i acc = acc
  | 0, _, _, _ => rfl
  | f + 1, i, acc, h => by
    unfold clsf
    rw [if_pos (h i (by omega) (by omega))]
    exact clsf_none f (i + 1) acc fun j h1 h2 => h j (by omega) (by omega)
theorem clsf_other {l : List Cl} {way : Cl} : ∀ (f i : Nat) (acc : Cl), (∀ j, i ≤ j → j < i + f → stp (cat l j) ≠ way) → (acc ≠ .ON ∨ ∃ j, i ≤ j ∧ j < i + f ∧ stp (cat l j) ≠ .ON) → acc ≠ way → clsf l way f i acc ≠ .ON ∧ clsf l way f i acc ≠ way
  | 0, i, acc, h1, h2, h3 => ⟨by rcases h2 with h | ⟨j, a, b, _⟩; exact h; omega, h3⟩
  | f + 1, i, acc, h1, h2, h3 => by
    unfold clsf
    by_cases e : stp (cat l i) = .ON
    · rw [if_pos e]
      refine clsf_other f (i + 1) acc (fun j a b => h1 j (by omega) (by omega)) ?_ h3
      rcases h2 with h | ⟨j, a, b, c⟩
      · exact .inl h
      · exact .inr ⟨j, by rcases Nat.eq_or_lt_of_le a with rfl | h; exact absurd e c; exact h, by omega, c⟩
    · rw [if_neg e, if_neg (h1 i (by omega) (by omega))]
      exact clsf_other f (i + 1) _ (fun j a b => h1 j (by omega) (by omega)) (.inl e) (h1 i (by omega) (by omega))
theorem ctxP_ctx {l : List Cl} {st : Cl} (hl : AllC isN l) : ∀ k, k ≤ l.length → ctxP l st k = ctx l st k
  | 0, _ => rfl
  | k + 1, h => by
    have hk := hl k (by omega)
    rw [ctxP, ctx, ctxP_ctx hl k (by omega), stp_stg hk]
    have hc := stp_cases (cat l k)
    rw [stp_stg hk] at hc
    cases hs : stg (cat l k) with
    | none => simp
    | some x =>
      simp only [Option.getD_some]
      have : x ≠ .ON := by
        intro e; subst e
        revert hs; cases cat l k <;> simp [stg]
      rw [if_neg this]
theorem same_stp {l : List Cl} {x y : Nat} {way : Cl} (hl : AllC isN l) (hy : y ≤ l.length) (hw : way = .L ∨ way = .R) : InsSame l x y way ↔ ∃ j, x + 1 ≤ j ∧ j < x + 1 + (y - (x + 1)) ∧ stp (cat l j) = way := by
  constructor
  · rintro ⟨i, h1, h2, h3⟩
    exact ⟨i, by omega, by omega, by rw [stp_stg (hl i (by omega)), h3]; rfl⟩
  · rintro ⟨i, h1, h2, h3⟩
    rw [stp_stg (hl i (by omega))] at h3
    refine ⟨i, by omega, by omega, ?_⟩
    cases hs : stg (cat l i) with
    | none => rw [hs] at h3; simp at h3; rcases hw with e | e <;> rw [e] at h3 <;> cases h3
    | some z => rw [hs] at h3; simp at h3; rw [h3]
theorem other_stp {l : List Cl} {x y : Nat} {way : Cl} (hl : AllC isN l) (hy : y ≤ l.length) (hn : ¬ InsSame l x y way) : InsOther l x y way ↔ ∃ j, x + 1 ≤ j ∧ j < x + 1 + (y - (x + 1)) ∧ stp (cat l j) ≠ .ON := by
  constructor
  · rintro ⟨i, h1, h2, z, h3, h4⟩
    refine ⟨i, by omega, by omega, ?_⟩
    rw [stp_stg (hl i (by omega)), h3]
    intro e; simp at e; subst e
    revert h3; cases cat l i <;> simp [stg]
  · rintro ⟨i, h1, h2, h3⟩
    rw [stp_stg (hl i (by omega))] at h3
    cases hs : stg (cat l i) with
    | none => rw [hs] at h3; simp at h3
    | some z => exact ⟨i, by omega, by omega, z, hs, fun e => hn ⟨i, by omega, by omega, by rw [hs, e]⟩⟩
theorem ctx_LR {l : List Cl} {st : Cl} (h : st = .L ∨ st = .R) (k : Nat) : ctx l st k = .L ∨ ctx l st k = .R := ctx_strong h k
theorem LR_ne {c : Cl} (h : c = .L ∨ c = .R) : c ≠ .ON := by rcases h with e | e <;> rw [e] <;> decide

set_option maxHeartbeats 16000000 in
set_option maxRecDepth 100000 in
theorem assignB_any (b lb gt n ct gi ic x y g0 N k0 : Nat) (pv : Value) (so way : Cl) (l cs : List Cl) (pl : List Nat) (w : World)
    (hq : BQ w b so lb pv gt n ct gi ic) (ht : Row w gt 77 (clsU l)) (hi : Row w gi 3 (nums .i64 (nats pl))) (h0 : Row w g0 77 (clsU cs))
    (hn : l.length = n) (hp : pl.length = n) (hc : cs.length = N) (hm : n ≤ 2147483647) (hM : N ≤ 2147483647) (hx : x < y) (hy : y < n) (hpl : ∀ q, q ∈ pl → q < N) (hne : g0 ≠ gt) (hini : cat (cIni cs pl) y ≠ .NSM)
    (hl : AllC isN l) (hw : way = .L ∨ way = .R) (hs : so = .L ∨ so = .R) :
    Calls Tryz.prog 140 #[.pointer (some ⟨b, 0, none⟩), .agg #[.int .i64 x, .int .i64 y], .int .u64 way.e2, .slice (some ⟨g0, 0, none⟩) N k0] w fun e w' => e = .returned (.tuple #[]) ∧ Row w' gt 77 (clsU (nstep (cIni cs pl) way so l (x, y))) ∧ Upd [gt] w w' := by
  have hbt : b ≠ gt := Row.ne_type hq ht (by decide)
  have hwn := LR_ne hw
  have hu : Upd [] w (w.alloc (.cells [.int .i64 x, .int .i64 y].toArray 179)) := (Upd.refl _ _).alloc _
  have hbx := Row.new w 179 [.int .i64 x, .int .i64 y]
  -- all facts at a later world
  have HS : Hid (∀ W, Upd [] (w.alloc (.cells [.int .i64 x, .int .i64 y].toArray 179)) W → BQ W b so lb pv gt n ct gi ic ∧ Row W gt 77 (clsU l) ∧ Row W gi 3 (nums .i64 (nats pl)) ∧ Row W g0 77 (clsU cs) ∧ Row W w.heap.size 179 [.int .i64 x, .int .i64 y] ∧ Upd [] w W) := fun W hW =>
    ⟨(hq.upd hu (by simp)).upd hW (by simp), (ht.upd hu (by simp)).upd hW (by simp), (hi.upd hu (by simp)).upd hW (by simp), (h0.upd hu (by simp)).upd hW (by simp), hbx.upd hW (by simp), hu.trans hW⟩
  have b0 := hbx.cell 0 (by simp)
  have b1 := hbx.cell 1 (by simp)
  simp only [List.getElem_cons_zero, List.getElem_cons_succ] at b0 b1
  have C1 : Hid (∀ W, Upd [] (w.alloc (.cells [.int .i64 x, .int .i64 y].toArray 179)) W → Calls Tryz.prog 147 #[.pointer (some ⟨b, 0, none⟩), .agg #[.int .i64 x, .int .i64 y], .int .u64 way.e2] W fun e w' => e = .returned (.int .u64 (clsf l way (y - (x + 1)) (x + 1) .ON).e2) ∧ Upd [] W w') := fun W hW => by
    obtain ⟨q, t, _⟩ := HS.out W hW
    exact classify_any b gt n ct x y way l W q.cells.c3 t hn hm hx hy
  have C2 : Hid (∀ W, Upd [] (w.alloc (.cells [.int .i64 x, .int .i64 y].toArray 179)) W → Calls Tryz.prog 148 #[.pointer (some ⟨b, 0, none⟩), .agg #[.int .i64 x, .int .i64 y]] W fun e w' => e = .returned (.int .u64 (ctx l so x).e2) ∧ Upd [] W w') := fun W hW => by
    obtain ⟨q, t, _⟩ := HS.out W hW
    rw [← ctxP_ctx hl x (by omega)]
    exact before_pair_any b gt n ct x y so l W q.cells.c0 q.cells.c3 t hn hm (by omega)
  have C3 : Hid (∀ t W, Upd [] (w.alloc (.cells [.int .i64 x, .int .i64 y].toArray 179)) W → Calls Tryz.prog 149 #[.pointer (some ⟨b, 0, none⟩), .agg #[.int .i64 x, .int .i64 y], .int .u64 t.e2, .slice (some ⟨g0, 0, none⟩) N k0] W fun e w' => e = .returned (.tuple #[]) ∧ Row w' gt 77 (clsU (nset (cIni cs pl) t y (nset (cIni cs pl) t x l))) ∧ Upd [gt] W w') := fun t W hW => by
    obtain ⟨q, t', i', z', _⟩ := HS.out W hW
    exact setBr_any b gt n ct gi ic x y g0 N k0 t l cs pl W q.cells.c3 q.cells.c4 t' i' z' hn hp hc hm hM hx hy hpl hne hbt hini
  have HU0 : Hid (Upd [] (w.alloc (.cells [.int .i64 x, .int .i64 y].toArray 179)) (w.alloc (.cells [.int .i64 x, .int .i64 y].toArray 179))) := Upd.refl _ _
  obtain ⟨dp, hdp⟩ : ∃ dp, dp = clsf l way (y - (x + 1)) (x + 1) .ON := ⟨_, rfl⟩
  rw [← hdp] at C1
  have bON : (dp.e2 == 10) = decide (dp = .ON) := Cl.e2_beq dp .ON
  have bW : (dp.e2 != way.e2) = !(decide (dp = way)) := by show (!(dp.e2 == way.e2)) = _; rw [Cl.e2_beq]
  have HT := Lib.hid ht
  by_cases hS : InsSame l x y way
  · have e1 : dp = way := by rw [hdp]; exact clsf_same _ _ _ ((same_stp hl (by omega) hw).1 hS) hwn
    have HE : Hid (nstep (cIni cs pl) way so l (x, y) = nset (cIni cs pl) way y (nset (cIni cs pl) way x l)) := by show _ = _; unfold nstep; simp only [hS, true_or, if_true]
    rw [e1] at C1 bON bW
    rw [decide_eq_false hwn] at bON
    simp only [decide_true, Bool.not_true] at bW
    rw [HE.out]
    clear hq ht hi h0 hbx hu hdp e1 hn hp hc hpl hini hl hw hs hbt hS hwn
    go_enter Tryz.func140, Tryz.ntmps140
    go_wp2_with (first
      | (go_at_call 147; refine (C1.out _ HU0.out).mono ?_; rintro e w2 ⟨rfl, hu2⟩; obtain ⟨_, _, _, _, x2, v2⟩ := HS.out _ hu2; have d0 := x2.cell 0 (by simp); have d1 := x2.cell 1 (by simp); simp only [List.getElem_cons_zero, List.getElem_cons_succ] at d0 d1)
      | (go_at_call 149; refine (C3.out way _ hu2).mono ?_; rintro e w3 ⟨rfl, hr3, hu3⟩))
    go_end0
    exact ⟨rfl, hr3, (v2.mono (by simp)).trans hu3⟩
  · have hns : ∀ j, x + 1 ≤ j → j < x + 1 + (y - (x + 1)) → stp (cat l j) ≠ way := fun j h1 h2 h3 => hS ((same_stp hl (by omega) hw).2 ⟨j, h1, h2, h3⟩)
    by_cases hO : InsOther l x y way
    · obtain ⟨e1, e2⟩ := clsf_other (l := l) (way := way) (y - (x + 1)) (x + 1) .ON hns (.inr ((other_stp hl (by omega) hS).1 hO)) (fun e => hwn e.symm)
      rw [← hdp] at e1 e2
      have hcx := ctx_LR (l := l) hs x
      have HE : Hid (nstep (cIni cs pl) way so l (x, y) = nset (cIni cs pl) (ctx l so x) y (nset (cIni cs pl) (ctx l so x) x l)) := by show _ = _; unfold nstep; simp only [hS, hO, or_true, if_true, if_false]
      rw [decide_eq_false e1] at bON
      rw [decide_eq_false e2] at bW
      simp only [Bool.not_false] at bW
      rw [HE.out]
      obtain ⟨cx, hcxe⟩ : ∃ cx, cx = ctx l so x := ⟨_, rfl⟩
      rw [← hcxe] at C2 hcx ⊢
      have b2 : (cx.e2 == 10) = false := by rw [show (10 : Int) = Cl.ON.e2 from rfl, Cl.e2_beq]; exact decide_eq_false (LR_ne hcx)
      have b3 : (cx.e2 == way.e2) = decide (cx = way) := Cl.e2_beq cx way
      clear hq ht hi h0 hbx hu hdp e1 e2 hn hp hc hpl hini hl hw hs hbt hS hwn hns hO hcxe hcx HE
      by_cases hcw : cx = way
      · subst hcw
        simp only [decide_true] at b3
        go_enter Tryz.func140, Tryz.ntmps140
        go_wp2_with (first
          | (go_at_call 147; refine (C1.out _ HU0.out).mono ?_; rintro e w2 ⟨rfl, hu2⟩; obtain ⟨_, _, _, _, x2, v2⟩ := HS.out _ hu2; have d0 := x2.cell 0 (by simp); have d1 := x2.cell 1 (by simp); simp only [List.getElem_cons_zero, List.getElem_cons_succ] at d0 d1)
          | (go_at_call 148; refine (C2.out _ hu2).mono ?_; rintro e w3 ⟨rfl, hu3⟩; have hu4 := hu2.trans hu3; obtain ⟨_, _, _, _, x3, v3⟩ := HS.out _ hu4; have f0 := x3.cell 0 (by simp); have f1 := x3.cell 1 (by simp); simp only [List.getElem_cons_zero, List.getElem_cons_succ] at f0 f1)
          | (go_at_call 149; refine (C3.out cx _ hu4).mono ?_; rintro e w5 ⟨rfl, hr5, hu5⟩))
        go_end0
        exact ⟨rfl, hr5, (v3.mono (by simp)).trans hu5⟩
      · rw [decide_eq_false hcw] at b3
        clear hcw
        go_enter Tryz.func140, Tryz.ntmps140
        go_wp2_with (first
          | (go_at_call 147; refine (C1.out _ HU0.out).mono ?_; rintro e w2 ⟨rfl, hu2⟩; obtain ⟨_, _, _, _, x2, v2⟩ := HS.out _ hu2; have d0 := x2.cell 0 (by simp); have d1 := x2.cell 1 (by simp); simp only [List.getElem_cons_zero, List.getElem_cons_succ] at d0 d1)
          | (go_at_call 148; refine (C2.out _ hu2).mono ?_; rintro e w3 ⟨rfl, hu3⟩; have hu4 := hu2.trans hu3; obtain ⟨_, _, _, _, x3, v3⟩ := HS.out _ hu4; have f0 := x3.cell 0 (by simp); have f1 := x3.cell 1 (by simp); simp only [List.getElem_cons_zero, List.getElem_cons_succ] at f0 f1)
          | (go_at_call 149; refine (C3.out cx _ hu4).mono ?_; rintro e w5 ⟨rfl, hr5, hu5⟩))
        go_end0
        exact ⟨rfl, hr5, (v3.mono (by simp)).trans hu5⟩
    · have hnone : ∀ j, x + 1 ≤ j → j < x + 1 + (y - (x + 1)) → stp (cat l j) = .ON := fun j h1 h2 => Classical.byContradiction fun h3 => hO ((other_stp hl (by omega) hS).2 ⟨j, h1, h2, h3⟩)
      have e1 : dp = .ON := by rw [hdp]; exact clsf_none _ _ _ hnone
      have HE : Hid (nstep (cIni cs pl) way so l (x, y) = l) := by show _ = _; unfold nstep; simp only [hS, hO, or_self, if_false]
      rw [decide_eq_true e1] at bON
      rw [HE.out]
      clear hq ht hi h0 hbx hu hdp e1 hn hp hc hpl hini hl hw hs hbt hS hwn hns hO hnone HE bW
      go_enter Tryz.func140, Tryz.ntmps140
      go_wp2_with (go_at_call 147; refine (C1.out _ HU0.out).mono ?_; rintro e w2 ⟨rfl, hu2⟩; obtain ⟨_, t2, _, _, _, v2⟩ := HS.out _ hu2)
      refine bodyPost_ret (results_none rfl _ _ _) rfl ?_
      exact ⟨rfl, t2, v2.mono (by simp)⟩
end Go.Proofs.YtjahmnenfknjgaaGreatDoor
namespace Go.Proofs.YtjahmnenfknjgaaGreatDoor
open Go.RowKit

/-- The pairs found, as a slice value reads them. -/
def PS (w : World) (pv : Value) (ps : List (Nat × Nat)) : Prop :=
  (pv = .slice none 0 0 ∧ ps = []) ∨ ∃ g c, pv = .slice (some ⟨g, 0, none⟩) ps.length c ∧ Row w g 179 (pcs ps)
theorem PS.shape {w : World} {pv : Value} {ps : List (Nat × Nat)} (h : PS w pv ps) : ∃ A c, pv = .slice A ps.length c := by
  rcases h with ⟨rfl, rfl⟩ | ⟨g, c, rfl, _⟩
  · exact ⟨_, _, rfl⟩
  · exact ⟨_, _, rfl⟩
theorem pcs_at {w : World} {g : Nat} {ps : List (Nat × Nat)} (h : Row w g 179 (pcs ps)) (j : Nat) (hj : j < ps.length) : w.cell? ⟨g, j * 2, none⟩ = some (.int .i64 (ps[j].1 : Int)) ∧ w.cell? ⟨g, j * 2 + 1, none⟩ = some (.int .i64 (ps[j].2 : Int)) := by
  have h1 := pcs_get ps j hj
  have e : ps.getD j default = ps[j] := by simp [hj]
  rw [e] at h1
  refine ⟨?_, ?_⟩
  · rw [h.cell (j * 2) (by rw [pcs_length]; omega), ← List.getElem?_eq_getElem, h1.1]
  · rw [h.cell (j * 2 + 1) (by rw [pcs_length]; omega), ← List.getElem?_eq_getElem, h1.2]
/-- N0 over the first j pairs. -/
noncomputable def nfold (ini : List Cl) (way st : Cl) (l : List Cl) (ps : List (Nat × Nat)) (j : Nat) : List Cl := (ps.take j).foldl (nstep ini way st) l
theorem nfold_succ {ini : List Cl} {way st : Cl} {l : List Cl} {ps : List (Nat × Nat)} {j : Nat} (h : j < ps.length) : nfold ini way st l ps (j + 1) = nstep ini way st (nfold ini way st l ps j) (ps[j].1, ps[j].2) := by
  unfold nfold
  rw [List.take_succ_eq_append_getElem h, List.foldl_append]; rfl
theorem nfold_end {ini : List Cl} {way st : Cl} {l : List Cl} {ps : List (Nat × Nat)} : nfold ini way st l ps ps.length = ps.foldl (nstep ini way st) l := by
  unfold nfold; rw [List.take_length]
theorem nfold_length (ini : List Cl) (way st : Cl) (l : List Cl) (ps : List (Nat × Nat)) (j : Nat) : (nfold ini way st l ps j).length = l.length := foldl_nstep_length _ _ _ _ _
theorem nfold_isN {ini : List Cl} {way st : Cl} {l : List Cl} {ps : List (Nat × Nat)} (h : AllC isN l) (hw : way = .L ∨ way = .R) (hs : st = .L ∨ st = .R) : ∀ j, j ≤ ps.length → AllC isN (nfold ini way st l ps j)
  | 0, _ => h
  | j + 1, hj => by rw [nfold_succ (by omega)]; exact nstep_isN (nfold_isN h hw hs j (by omega)) hw hs

set_option maxHeartbeats 16000000 in
set_option maxRecDepth 100000 in
theorem resolveB_any (b lb gt n ct gi ic g0 N k0 : Nat) (pv : Value) (so way : Cl) (l cs : List Cl) (pl : List Nat) (ps : List (Nat × Nat)) (w : World)
    (hq : BQ w b so lb pv gt n ct gi ic) (ht : Row w gt 77 (clsU l)) (hi : Row w gi 3 (nums .i64 (nats pl))) (h0 : Row w g0 77 (clsU cs)) (hps : PS w pv ps)
    (hn : l.length = n) (hp : pl.length = n) (hc : cs.length = N) (hm : n ≤ 2147483647) (hM : N ≤ 2147483647) (hpm : ps.length ≤ 2147483647) (hpr : ∀ p, p ∈ ps → p.1 < p.2 ∧ p.2 < n ∧ cat (cIni cs pl) p.2 ≠ .NSM) (hpl : ∀ q, q ∈ pl → q < N) (hne : g0 ≠ gt)
    (hl : AllC isN l) (hw : way = .L ∨ way = .R) (hs : so = .L ∨ so = .R) :
    Calls Tryz.prog 115 #[.pointer (some ⟨b, 0, none⟩), .int .u64 way.e2, .slice (some ⟨g0, 0, none⟩) N k0] w fun e w' => e = .returned (.tuple #[]) ∧ Row w' gt 77 (clsU (ps.foldl (nstep (cIni cs pl) way so) l)) ∧ Upd [gt] w w' := by
  have hbt : b ≠ gt := Row.ne_type hq ht (by decide)
  have hgi : gi ≠ gt := hi.ne_type ht (by decide)
  have c2 := hq.cells.c2
  have HS : Hid (∀ W, Upd [gt] w W → BQ W b so lb pv gt n ct gi ic ∧ Row W gi 3 (nums .i64 (nats pl)) ∧ Row W g0 77 (clsU cs)) := fun W hW =>
    ⟨hq.upd hW (by simpa using hbt), hi.upd hW (by simpa using hgi), h0.upd hW (by simpa using hne)⟩
  have HPC : Hid (∀ W, Upd [gt] w W → ∀ A c, pv = .slice A ps.length c → ∀ j (hj : j < ps.length), ∃ g, A = some ⟨g, 0, none⟩ ∧ W.cell? ⟨g, j * 2, none⟩ = some (.int .i64 (ps[j].1 : Int)) ∧ W.cell? ⟨g, j * 2 + 1, none⟩ = some (.int .i64 (ps[j].2 : Int))) := by
    intro W hW A c hA j hj
    rcases hps with ⟨_, rfl⟩ | ⟨g, c', hv, hr⟩
    · simp at hj
    · rw [hv] at hA; cases hA
      have hgt : g ≠ gt := Row.ne_type hr ht (by decide)
      exact ⟨g, rfl, pcs_at (hr.upd hW (by simpa using hgt)) j hj⟩
  obtain ⟨A, c, hpv⟩ := hps.shape
  have HC : Hid (∀ (m : List Cl) (p : Nat × Nat) W, p ∈ ps → m.length = n → AllC isN m → Row W gt 77 (clsU m) → BQ W b so lb pv gt n ct gi ic → Row W gi 3 (nums .i64 (nats pl)) → Row W g0 77 (clsU cs) →
      Calls Tryz.prog 140 #[.pointer (some ⟨b, 0, none⟩), .agg #[.int .i64 p.1, .int .i64 p.2], .int .u64 way.e2, .slice (some ⟨g0, 0, none⟩) N k0] W fun e w' => e = .returned (.tuple #[]) ∧ Row w' gt 77 (clsU (nstep (cIni cs pl) way so m (p.1, p.2))) ∧ Upd [gt] W w') := fun m p W hpm hml hmi h1 h2 h3 h4 =>
    assignB_any b lb gt n ct gi ic p.1 p.2 g0 N k0 pv so way m cs pl W h2 h1 h3 h4 hml hp hc hm hM (hpr p hpm).1 (hpr p hpm).2.1 hpl hne (hpr p hpm).2.2 hmi hw hs
  have HL : Hid (∀ j, j ≤ ps.length → (nfold (cIni cs pl) way so l ps j).length = n ∧ AllC isN (nfold (cIni cs pl) way so l ps j)) := fun j hj => ⟨by rw [nfold_length]; exact hn, nfold_isN hl hw hs j hj⟩
  have HT0 : Hid (Row w gt 77 (clsU (nfold (cIni cs pl) way so l ps 0))) := ht
  have HPV := Lib.hid hpv
  rw [hpv] at c2
  clear hq ht hi h0 hps hn hp hc hpr hpl hne hl hw hs hpv hgi
  go_enter Tryz.func115, Tryz.ntmps115
  go_wp2
  clear c2
  go_loopg [13] (ps.length + 1) (fun k i wr => ∃ (j : Nat), i = .int .i64 j ∧ j ≤ ps.length ∧ Row wr gt 77 (clsU (nfold (cIni cs pl) way so l ps j)) ∧ Upd [gt] w wr ∧ Hid (ps.length - j ≤ k))
  case atStart => exact ⟨0, rfl, by omega, HT0.out, Upd.refl _ _, by show _ ≤ _; omega⟩
  case round =>
    obtain ⟨j, rfl, hj, hR, hU, hk⟩ := hrel
    by_cases hlt : j < ps.length
    · obtain ⟨g, rfl, c0, c1⟩ := HPC.out _ hU A c HPV.out j hlt
      obtain ⟨p, hpe⟩ : ∃ p, p = ps[j] := ⟨_, rfl⟩
      rw [← hpe] at c0 c1
      have hpm : p ∈ ps := by rw [hpe]; exact List.getElem_mem hlt
      have HN : Hid (nfold (cIni cs pl) way so l ps (j + 1) = nstep (cIni cs pl) way so (nfold (cIni cs pl) way so l ps j) (p.1, p.2)) := by show _ = _; rw [nfold_succ hlt, hpe]
      have hu1 : Upd [] wr (wr.alloc (.cells [.int .i64 p.1, .int .i64 p.2].toArray 179)) := (Upd.refl _ _).alloc _
      have HX : Hid (∀ W, Upd [] wr W → Calls Tryz.prog 140 #[.pointer (some ⟨b, 0, none⟩), .agg #[.int .i64 p.1, .int .i64 p.2], .int .u64 way.e2, .slice (some ⟨g0, 0, none⟩) N k0] W fun e w' => e = .returned (.tuple #[]) ∧ Row w' gt 77 (clsU (nfold (cIni cs pl) way so l ps (j + 1))) ∧ Upd [gt] w w') := fun W hW => by
        obtain ⟨q1, q2, q3⟩ := HS.out W (hU.then hW)
        obtain ⟨l1, l2⟩ := HL.out j hj
        rw [HN.out]
        exact (HC.out _ p W hpm l1 l2 (hR.upd hW (by simp)) q1 q2 q3).mono fun _ _ ⟨a1, a2, a3⟩ => ⟨a1, a2, (hU.then hW).trans a3⟩
      have HU0 := Lib.hid ((Upd.refl [] wr).alloc (.cells #[.int .i64 p.1, .int .i64 p.2] 179))
      have HU1 : Hid (∀ o q u, Upd [] wr (((wr.alloc o).setCell ⟨wr.heap.size, q, none⟩ u))) := fun o q u => ((Upd.refl [] wr).alloc o).setCell (p := ⟨wr.heap.size, q, none⟩) (.inr (Nat.le_refl _)) u
      clear hpe hpm hu1 hR hU
      go_wp2_with (go_at_call 140; refine (HX.out _ (by first | exact HU0.out | exact HU1.out _ _ _)).mono ?_; rintro e w2 ⟨rfl, hr2, hu2⟩)
      go_roundg (ps.length - (j + 1))
      case measure => have := hk.out; omega
      case rel => exact ⟨j + 1, by go_num, by omega, hr2, hu2, Nat.le_refl _⟩
    · obtain rfl : j = ps.length := by omega
      rw [nfold_end] at hR
      go_wp2
      go_end0
      exact ⟨rfl, hR, hU⟩
end Go.Proofs.YtjahmnenfknjgaaGreatDoor
namespace Go.Proofs.YtjahmnenfknjgaaGreatDoor
open Go.Sort

theorem prsK_congr {cl cl' : List Int} : ∀ n, (∀ i, i < n → nth cl i = nth cl' i) → prsK cl n = prsK cl' n
  | 0, _ => rfl
  | n + 1, h => by
    have ih := prsK_congr n fun i hi => h i (by omega)
    have hn := h n (by omega)
    by_cases e : 0 < nth cl n
    · rw [prsK_yes e, prsK_yes (by rw [← hn]; exact e), ih, hn]
    · rw [prsK_no e, prsK_no (by rw [← hn]; exact e), ih]
theorem prsK_set {cl : List Int} {a : Nat} {v : Nat} (h0 : nth cl a = 0) (hl : a < cl.length) (hv : 0 < v) : ∀ n, a < n → (prsK (cl.set a v) n).Perm (prsK cl n ++ [(a, v)])
  | 0, h => by omega
  | n + 1, h => by
    by_cases e : a = n
    · subst e
      have h1 : nth (cl.set a v) a = v := nth_set_self hl
      rw [prsK_yes (by rw [h1]; omega), prsK_no (by omega), h1, prsK_congr (cl' := cl) a fun i hi => nth_set_ne (by omega)]
      simp
    · have ih := prsK_set h0 hl hv n (by omega)
      have h1 : nth (cl.set a v) n = nth cl n := nth_set_ne e
      by_cases e2 : 0 < nth cl n
      · rw [prsK_yes (by rw [h1]; exact e2), prsK_yes e2, h1]
        refine (ih.append_right _).trans ?_
        rw [List.append_assoc, List.append_assoc]
        exact List.Perm.append_left _ List.perm_append_comm
      · rw [prsK_no (by rw [h1]; exact e2), prsK_no e2]; exact ih
theorem prsK_mem {cl : List Int} : ∀ {n : Nat} {p : Nat × Nat}, p ∈ prsK cl n → p.1 < n ∧ 0 < nth cl p.1 ∧ p.2 = (nth cl p.1).toNat := by
  intro n p h
  simp only [prsK, List.mem_filterMap, List.mem_range] at h
  obtain ⟨i, hi, h⟩ := h
  split at h
  · rename_i e; simp at h; subst h; exact ⟨hi, e, rfl⟩
  · simp at h
theorem prsK_up (cl : List Int) : ∀ n, (prsK cl n).Pairwise fun p q => p.1 < q.1
  | 0 => List.Pairwise.nil
  | n + 1 => by
    by_cases e : 0 < nth cl n
    · rw [prsK_yes e, List.pairwise_append]
      refine ⟨prsK_up cl n, by simp, fun p hp q hq => ?_⟩
      simp at hq; subst hq
      exact (prsK_mem hp).1
    · rw [prsK_no e]; exact prsK_up cl n
/-- Sorted by their first places, and the same but for the order: the same. -/
theorem sort_uniq {l l' : List (Nat × Nat)} (h : l.Pairwise fun p q => p.1 < q.1) (hp : l'.Perm l) (hs : l'.Pairwise fun p q => p.1 ≤ q.1) : l' = l := by
  refine List.Perm.eq_of_pairwise (le := fun p q => p.1 ≤ q.1) ?_ hs (h.imp fun h => Nat.le_of_lt h) hp
  intro a b ha hb h1 h2
  have ha' := hp.mem_iff.1 ha
  have e : a.1 = b.1 := Nat.le_antisymm h1 h2
  obtain ⟨i, hi, rfl⟩ := List.getElem_of_mem ha'
  obtain ⟨j, hj, rfl⟩ := List.getElem_of_mem hb
  have hw := List.pairwise_iff_getElem.1 h
  rcases Nat.lt_trichotomy i j with h3 | h3 | h3
  · have := hw i j hi hj h3; omega
  · subst h3; rfl
  · have := hw j i hj hi h3; omega
theorem pw_of_sortedIn {n : Nat} {d : PA} (hn : d.size = n) (h : SortedIn ltO 0 n d) : d.toList.Pairwise fun p q => p.1 ≤ q.1 := by
  rw [List.pairwise_iff_getElem]
  intro i j hi hj hij
  have := h i j (by omega) hij (by simpa [← hn] using hj)
  simp only [ltO, decide_eq_false_iff_not, Nat.not_lt] at this
  simp only [Array.length_toList] at hi hj
  simpa [hi, hj] using this
theorem perm_of_permIn {n : Nat} {d d' : PA} (hn : d.size = n) (h : PermIn 0 n d d') : d'.toList.Perm d.toList := by
  have h1 := h.2.2
  have e1 : d.extract 0 n = d := by rw [← hn]; simp
  have e2 : d'.extract 0 n = d' := by rw [← hn, ← h.1]; simp
  rw [e1, e2] at h1; exact h1
/-- What is on the stack is open, an opening bracket, and stands in order. -/
structure StOk (l : List Cl) (br : List Int) (s : PSt) (i : Nat) : Prop where
  dec : s.stk.Pairwise (· > ·)
  op : ∀ x, x ∈ s.stk → x < i ∧ nth s.cl x = 0 ∧ 0 < nth br x
  cl : ∀ q, nth s.cl q ≠ 0 → 0 < nth br q ∧ q < i
theorem pst_ok (l : List Cl) (br : List Int) : ∀ i, StOk l br (pst l br i) i
  | 0 => ⟨by simp [pst], by simp [pst], fun q h => by
    rcases pst_val l br 0 q with h1 | ⟨c, _, _, h3⟩
    · exact absurd h1 h
    · omega⟩
  | i + 1 => by
    have ih := pst_ok l br i
    have up : StOk l br (pst l br i) (i + 1) := ⟨ih.dec, fun x hx => by have := ih.op x hx; exact ⟨by omega, this.2⟩, fun q hq => by have := ih.cl q hq; exact ⟨this.1, by omega⟩⟩
    show StOk l br (pstep l br (pst l br i) i) (i + 1)
    unfold pstep
    split
    · split
      · rename_i hb
        refine ⟨?_, ?_, up.cl⟩
        · simp only [List.pairwise_cons]
          exact ⟨fun x hx => (ih.op x hx).1, ih.dec⟩
        · intro x hx
          simp only [List.mem_cons] at hx
          rcases hx with rfl | hx
          · refine ⟨by omega, ?_, hb⟩
            exact Classical.byContradiction fun h => by have := (ih.cl x h).2; omega
          · exact up.op x hx
      · split
        · split
          · rename_i a r hp
            obtain ⟨pre, hst, hv⟩ := popTo_sub hp
            have hd := ih.dec
            rw [hst] at hd
            have hd2 := (List.pairwise_append.1 hd).2.1
            simp only [List.pairwise_cons] at hd2
            have ha := ih.op a (by rw [hst]; simp)
            refine ⟨hd2.2, ?_, ?_⟩
            · intro x hx
              have h1 := ih.op x (by rw [hst]; simp [hx])
              have h2 := hd2.1 x hx
              exact ⟨by omega, by rw [nth_set_ne (by omega)]; exact h1.2.1, h1.2.2⟩
            · intro q hq
              by_cases e : a = q
              · subst e; exact ⟨ha.2.2, by omega⟩
              · simp only [nth_set_ne e] at hq; exact up.cl q hq
          · exact up
        · exact up
    · exact up
theorem prs_count {l : List Cl} {br : List Int} (i : Nat) : ∀ n, (prsK (pst l br i).cl n).length ≤ opc br n
  | 0 => by simp [prsK]
  | n + 1 => by
    have ih := prs_count (l := l) (br := br) i n
    rw [opc_succ]
    by_cases e : 0 < nth (pst l br i).cl n
    · rw [prsK_yes e, List.length_append]
      have := ((pst_ok l br i).cl n (by omega)).1
      rw [if_pos this]; simp; omega
    · rw [prsK_no e]; omega
end Go.Proofs.YtjahmnenfknjgaaGreatDoor
namespace Go.Proofs.YtjahmnenfknjgaaGreatDoor
open Go.RowKit Go.Sort

set_option maxHeartbeats 4000000 in
set_option maxRecDepth 100000 in
theorem match_any (b gi n ic N kv x y : Nat) (B : Option Addr) (pl : List Nat) (vs : List Int) (w : World) (v : Bool)
    (h4 : w.cell? ⟨b, 4, none⟩ = some (.slice (some ⟨gi, 0, none⟩) n ic)) (hi : Row w gi 3 (nums .i64 (nats pl))) (hv : Rd w B (nums .i32 vs))
    (hp : pl.length = n) (hN : vs.length = N) (hm : n ≤ 2147483647) (hM : N ≤ 2147483647) (hx : x < n) (hy : y < n) (hpl : ∀ q, q ∈ pl → q < N) (he : decide (nth vs (nat pl x) = nth vs (nat pl y)) = v) :
    Calls Tryz.prog 137 #[.pointer (some ⟨b, 0, none⟩), .slice B N kv, .int .i64 x, .int .i64 y] w fun e w' => e = .returned (.bool v) ∧ Upd [] w w' := by
  have hxn := hpl _ (nat_mem (by omega : x < pl.length))
  have hyn := hpl _ (nat_mem (by omega : y < pl.length))
  have cx := hi.num x (by rw [nats_length]; omega)
  have cy := hi.num y (by rw [nats_length]; omega)
  rw [nth_nats (by omega)] at cx cy
  obtain ⟨g, o, hB, vx⟩ := hv.num (nat pl x) (by omega)
  obtain ⟨g', o', hB', vy⟩ := hv.num (nat pl y) (by omega)
  rw [hB] at hB'
  cases hB'
  subst hB
  have hb : (nth vs (nat pl x) == nth vs (nat pl y)) = v := by rw [← he]; rfl
  generalize nat pl x = p at *
  generalize nat pl y = q at *
  generalize nth vs p = vp at *
  generalize nth vs q = vq at *
  clear hi hv hpl he
  go_enter Tryz.func137, Tryz.ntmps137
  go_wp2
  go_quiet (fail)
  go_wp2
  go_ret
  exact ⟨by rw [← hb]; rfl, (Upd.refl _ _).drewN _⟩

/-- What locateBrackets holds: the pairer, the list of openers, the pairs so far. -/
structure LF (b lb gt n ct gi ic : Nat) (so : Cl) (w0 w : World) (es ps : List (Nat × Nat)) (pv : Value) : Prop where
  q : BQ w b so lb pv gt n ct gi ic
  ll : LL w lb es
  lo : ∀ e, e ∈ es.map Prod.fst → w0.heap.size ≤ e
  own : w.ownsRow w0.heap.size 179 2 pv ps.length (pcs ps)
  up : Upd [b, lb] w0 w
theorem own_out {w : World} {base n : Nat} {pv : Value} {xs : List Value} {lb : Nat} {es : List (Nat × Nat)} (ho : w.ownsRow base 179 2 pv n xs) (hl : LL w lb es) : ∀ k, pv.ownBlock = some k → k ∉ lb :: es.map Prod.fst := by
  intro k hk
  rcases ho.2 with ⟨rfl, _⟩ | ⟨g, cap, cur, rfl, _, hg, _⟩
  · simp [Value.ownBlock] at hk
  · simp [Value.ownBlock] at hk; subst hk
    exact hl.out (Row.of_owns ho) (by decide) (by decide)
theorem LF.upd0 {b lb gt n ct gi ic : Nat} {so : Cl} {w0 w w' : World} {es ps : List (Nat × Nat)} {pv : Value} (h : LF b lb gt n ct gi ic so w0 w es ps pv) (hu : Upd [] w w') : LF b lb gt n ct gi ic so w0 w' es ps pv :=
  ⟨h.q.upd hu (by simp), h.ll.upd0 hu, h.lo, own_upd h.own hu (fun _ _ => by simp), h.up.then hu⟩
theorem LF.push {b lb gt n ct gi ic : Nat} {so : Cl} {w0 w w' : World} {es ps : List (Nat × Nat)} {pv : Value} {i : Nat} (h : LF b lb gt n ct gi ic so w0 w es ps pv) (hl : LL w' lb ((w.heap.size, i) :: es)) (hu : Upd (lb :: es.map Prod.fst) w w') : LF b lb gt n ct gi ic so w0 w' ((w.heap.size, i) :: es) ps pv := by
  refine ⟨h.q.upd hu (h.ll.out h.q (by decide) (by decide)), hl, ?_, own_upd h.own hu (own_out h.own h.ll), h.up.step hu ?_⟩
  · intro e he
    simp only [List.map_cons, List.mem_cons] at he
    rcases he with rfl | he
    · exact h.up.size
    · exact h.lo e he
  · intro t ht
    simp only [List.mem_cons] at ht
    rcases ht with rfl | ht
    · left; simp
    · right; exact h.lo t ht
theorem LF.rem {b lb gt n ct gi ic : Nat} {so : Cl} {w0 w w' : World} {x y : Nat} {es ps : List (Nat × Nat)} {pv : Value} (h : LF b lb gt n ct gi ic so w0 w ((x, y) :: es) ps pv) (hl : LL w' lb es) (hu : Upd (lb :: x :: es.map Prod.fst) w w') : LF b lb gt n ct gi ic so w0 w' es ps pv := by
  refine ⟨h.q.upd hu (h.ll.out h.q (by decide) (by decide)), hl, fun e he => h.lo e (by simp only [List.map_cons, List.mem_cons]; exact .inr he), own_upd h.own hu (own_out h.own h.ll), h.up.step hu ?_⟩
  intro t ht
  simp only [List.mem_cons] at ht
  rcases ht with rfl | rfl | ht
  · left; simp
  · right; exact h.lo t (by simp)
  · right; exact h.lo t (by simp only [List.map_cons, List.mem_cons]; exact .inr ht)
theorem LL.grown {w w' : World} {b : Nat} {es : List (Nat × Nat)} {row : Option Nat} (h : LL w b es) (hg : w.grownBy w' row) (hn : ∀ k, row = some k → k ∉ b :: es.map Prod.fst) : LL w' b es := by
  have hu : Upd (match row with | some k => [k] | none => []) w w' := by
    refine (Upd.refl _ w).grown hg fun k hk => .inl ?_
    subst hk; simp
  refine h.upd hu ?_ ?_
  · cases row with
    | none => simp
    | some k => simp only [List.mem_singleton]; rintro rfl; exact hn _ rfl (by simp)
  · intro e he
    cases row with
    | none => simp
    | some k => simp only [List.mem_singleton]; rintro rfl; exact hn _ rfl (by simp only [List.mem_cons]; exact .inr he)
theorem LF.app {b lb gt n ct gi ic : Nat} {so : Cl} {w0 w w' : World} {es ps : List (Nat × Nat)} {pv pv' : Value} {a i : Nat} (h : LF b lb gt n ct gi ic so w0 w es ps pv)
    (hown : w'.ownsRow w0.heap.size 179 2 pv' (ps.length + 1) (pcs ps ++ [.int .i64 a, .int .i64 i])) (hg : w.grownBy w' pv.ownBlock) : LF b lb gt n ct gi ic so w0 (w'.setCell ⟨b, 2, none⟩ pv') es (ps ++ [(a, i)]) pv' := by
  have hout := own_out h.own h.ll
  have hbk : ∀ k, pv.ownBlock = some k → b ≠ k := by
    intro k hk
    rcases h.own.2 with ⟨rfl, _⟩ | ⟨g, cap, cur, rfl, _, hgg, _⟩
    · simp [Value.ownBlock] at hk
    · simp [Value.ownBlock] at hk; subst hk
      exact Row.ne_type h.q (Row.of_owns h.own) (by decide)
  have hq2 : Row w' b 151 _ := Row.grown h.q hg (by intro e; exact hbk b e.symm rfl)
  have hlb := h.ll.out h.q (by decide) (by decide)
  have hll2 := h.ll.grown hg hout
  have hu1 : Upd [b] w' (w'.setCell ⟨b, 2, none⟩ pv') := (Upd.refl [b] w').setCell (p := ⟨b, 2, none⟩) (.inl (by simp)) _
  refine ⟨Row.set hq2 2 pv' (by simp), ?_, h.lo, ?_, ?_⟩
  · refine hll2.upd hu1 ?_ ?_
    · simp only [List.mem_singleton]; rintro rfl; exact hlb (by simp)
    · intro e he; simp only [List.mem_singleton]; rintro rfl; exact hlb (by simp only [List.mem_cons]; exact .inr he)
  · rw [show (ps ++ [(a, i)]).length = ps.length + 1 by simp, show pcs (ps ++ [(a, i)]) = pcs ps ++ [.int .i64 a, .int .i64 i] by rw [pcs_append]; rfl]
    refine own_upd hown hu1 fun k hk => ?_
    simp only [List.mem_singleton]
    rintro rfl
    rcases hown.2 with ⟨rfl, _⟩ | ⟨g, cap, cur, rfl, _, hgg, _⟩
    · simp [Value.ownBlock] at hk
    · simp [Value.ownBlock] at hk; subst hk
      exact Row.ne_type hq2 (Row.of_owns hown) (by decide) rfl
  · exact ((h.up.grown hg (fun k hk => by
      rcases h.own.2 with ⟨rfl, _⟩ | ⟨g, cap, cur, rfl, hb, _⟩
      · simp [Value.ownBlock] at hk
      · simp [Value.ownBlock] at hk; subst hk; exact .inr hb))).setCell (p := ⟨b, 2, none⟩) (.inl (by simp)) _
theorem LF.ps {b lb gt n ct gi ic : Nat} {so : Cl} {w0 w : World} {es ps : List (Nat × Nat)} {pv : Value} (h : LF b lb gt n ct gi ic so w0 w es ps pv) : PS w pv ps := by
  rcases h.own.2 with ⟨hv, h0⟩ | ⟨g, cap, cur, hv, _⟩
  · exact .inl ⟨hv, List.length_eq_zero_iff.1 h0⟩
  · have ho := h.own
    rw [hv] at ho
    exact .inr ⟨g, cap, hv, Row.of_owns ho⟩
theorem LF.sorted {b lb gt n ct gi ic : Nat} {so : Cl} {w0 w w' : World} {es ps : List (Nat × Nat)} {g c : Nat} {d : PA} (h : LF b lb gt n ct gi ic so w0 w es ps (.slice (some ⟨g, 0, none⟩) ps.length c)) (hs : SS g w d w') (hd : d.size = ps.length) :
    LF b lb gt n ct gi ic so w0 w' es d.toList (.slice (some ⟨g, 0, none⟩) ps.length c) := by
  have hrow := Row.of_owns h.own
  have hbg : b ≠ g := Row.ne_type h.q hrow (by decide)
  have hout := own_out h.own h.ll g rfl
  rcases h.own.2 with ⟨h', _⟩ | ⟨g', cap', cur, h', hb, hgg, hnc, hcm, hsz, htake⟩
  · simp at h'
  · simp only [Value.slice.injEq, Option.some.injEq, Addr.mk.injEq, and_true, true_and] at h'
    obtain ⟨rfl, rfl⟩ := h'
    obtain ⟨rest, hr⟩ := hs.pr
    have hz := hs.sz
    unfold csz at hz
    rw [hr, hgg] at hz
    simp only [Option.some.injEq] at hz
    have hdl : d.toList.length = ps.length := by simpa using hd
    refine ⟨h.q.upd hs.up (by simpa using hbg), h.ll.upd hs.up ?_ ?_, h.lo, ⟨by rw [pcs_length, Array.length_toList], .inr ⟨g, c, (pcs d.toList ++ rest).toArray, by rw [hdl], hb, hr, by rw [hdl]; exact hnc, hcm, by rw [hz]; exact hsz, ?_⟩⟩, ?_⟩
    · simp only [List.mem_singleton]; rintro rfl; exact hout (by simp)
    · intro e he; simp only [List.mem_singleton]; rintro rfl; exact hout (by simp only [List.mem_cons]; exact .inr he)
    · show List.take _ (pcs d.toList ++ rest) = _
      rw [List.take_append_of_le_length (by rw [pcs_length]; exact Nat.le_refl _), List.take_of_length_le (by rw [pcs_length]; exact Nat.le_refl _)]
    · exact h.up.step hs.up fun t ht => by simp at ht; subst ht; exact .inr hb
end Go.Proofs.YtjahmnenfknjgaaGreatDoor
namespace Go.Proofs.YtjahmnenfknjgaaGreatDoor
open Go.RowKit Go.Sort

set_option maxHeartbeats 4000000 in
set_option maxRecDepth 100000 in
theorem sortNil_any (w : World) : Calls Tryz.prog 139 #[.iface 149 (.slice none 0 0)] w fun e w' => e = .returned (.tuple #[]) ∧ w = w' := by
  have mN : ∀ w : World, (method 333 149 (.slice none 0 0) "Len").run Tryz.prog w = .ok (184, .slice none 0 0) w := fun _ => by kernel_rfl
  have hLen : ∀ w, Calls Tryz.prog 184 #[.slice none 0 0] w fun e w' => e = .returned (.int .i64 0) ∧ w = w' := fun w => by
    go_enter Tryz.func184, Tryz.ntmps184
    go_wp2
    go_ret
    exact ⟨rfl, rfl⟩
  generalize Value.slice none 0 0 = rv at mN hLen ⊢
  go_enter Tryz.func139, Tryz.ntmps139
  go_wp2_with (go_at_call 184; refine (hLen _).mono ?_; rintro e w' ⟨rfl, rfl⟩)
  refine bodyPost_ret (results_none rfl _ _ _) rfl ?_
  exact ⟨rfl, rfl⟩

/-- sort.Sort of the pairs found: they stand as the list qs that is in order. -/
theorem sortP_any {b lb gt n ct gi ic : Nat} {so : Cl} {w0 w : World} {es ps qs : List (Nat × Nat)} {pv : Value} (h : LF b lb gt n ct gi ic so w0 w es ps pv) (hq : qs.Pairwise fun p q => p.1 < q.1) (hp : ps.Perm qs) (hl : ps.length ≤ 255) :
    Calls Tryz.prog 139 #[.iface 149 pv] w fun e w' => e = .returned (.tuple #[]) ∧ LF b lb gt n ct gi ic so w0 w' es qs pv := by
  rcases h.own.2 with ⟨hv, h0⟩ | ⟨g, c, cur, hv, _⟩
  · have e0 : ps = [] := List.length_eq_zero_iff.1 h0
    have e1 : qs = [] := by rw [e0] at hp; exact List.nil_perm.1 hp
    subst e0 e1
    subst hv
    exact (sortNil_any w).mono fun e w' ⟨h1, h2⟩ => ⟨h1, by subst h2; exact h⟩
  · subst hv
    have hr := Row.of_owns h.own
    have hpr : PR w g ps.toArray := hr
    refine (sort_any g ps.length c ps.toArray w hpr (by simp) hl).mono ?_
    rintro e w' ⟨he, d, hd1, hd2, hs⟩
    have hsz : d.size = ps.length := by simpa using hd1.1
    have hperm : d.toList.Perm ps := perm_of_permIn (by simp) hd1
    have hpw := pw_of_sortedIn hsz hd2
    have hdq : d.toList = qs := sort_uniq hq (hperm.trans hp) hpw
    have hF := h.sorted hs hsz
    rw [hdq] at hF
    exact ⟨he, hF⟩

theorem pst_same {l : List Cl} {br : List Int} {i : Nat} (h : cat l i ≠ .ON ∨ nth br i = 0) : pst l br (i + 1) = pst l br i := by
  show pstep l br (pst l br i) i = _
  unfold pstep
  rcases h with h | h
  · rw [if_neg h]
  · split
    · rw [if_neg (by omega), if_neg (by omega)]
    · rfl
theorem pst_open {l : List Cl} {br : List Int} {i : Nat} (h : cat l i = .ON) (h' : 0 < nth br i) : pst l br (i + 1) = ⟨i :: (pst l br i).stk, (pst l br i).cl⟩ := by
  show pstep l br (pst l br i) i = _
  unfold pstep
  rw [if_pos h, if_pos h']
theorem pst_close {l : List Cl} {br : List Int} {i a : Nat} {r : List Nat} (h : cat l i = .ON) (h' : nth br i < 0) (hp : popTo br (- nth br i) (pst l br i).stk = some (a, r)) : pst l br (i + 1) = ⟨r, (pst l br i).cl.set a i⟩ := by
  show pstep l br (pst l br i) i = _
  unfold pstep
  rw [if_pos h, if_neg (by omega), if_pos h', hp]
theorem pst_miss {l : List Cl} {br : List Int} {i : Nat} (h : cat l i = .ON) (h' : nth br i < 0) (hp : popTo br (- nth br i) (pst l br i).stk = none) : pst l br (i + 1) = pst l br i := by
  show pstep l br (pst l br i) i = _
  unfold pstep
  rw [if_pos h, if_neg (by omega), if_pos h', hp]
theorem map_drop_cons {es : List (Nat × Nat)} {t : Nat} {x y : Nat} {r : List (Nat × Nat)} (h : es.drop t = (x, y) :: r) : es.drop (t + 1) = r ∧ t < es.length ∧ (es.map Prod.snd).drop t = y :: (es.map Prod.snd).drop (t + 1) := by
  have h1 : es.drop (t + 1) = r := by rw [← List.drop_drop, h]; rfl
  refine ⟨h1, ?_, ?_⟩
  · apply Nat.lt_of_not_le; intro h2; rw [List.drop_eq_nil_of_le h2] at h; cases h
  · rw [← List.map_drop, h, ← List.map_drop, h1]; rfl
/-- The pairs behind a closing bracket that finds its opening one. -/
theorem close_perm {l : List Cl} {br : List Int} {i a : Nat} {r : List Nat} (hi : i < l.length) (h : cat l i = .ON) (h' : nth br i < 0) (hp : popTo br (- nth br i) (pst l br i).stk = some (a, r)) :
    (prsK (pst l br i).cl l.length ++ [(a, i)]).Perm (prsK (pst l br (i + 1)).cl l.length) := by
  rw [pst_close h h' hp]
  obtain ⟨pre, hst, _⟩ := popTo_sub hp
  have ha := (pst_ok l br i).op a (by rw [hst]; simp)
  exact (prsK_set ha.2.1 (by rw [pst_cl]; omega) (by omega) l.length (by omega)).symm
end Go.Proofs.YtjahmnenfknjgaaGreatDoor
