/- The set's Explicit (X1 to X8) and ClosesInOverride, each by its contract. -/
import Derived.Test.YtjahmnenfknjgaaGreatDoorG2
set_option linter.unusedVariables false
set_option linter.unusedSimpArgs false
namespace Go.Proofs.YtjahmnenfknjgaaGreatDoor
open Go.RowKit

/-- What a function hands back that gives two slices of numbers. -/
def RetTwo (w : World) (n : Nat) (xs ys : List Int) (e : Ending) (w' : World) : Prop :=
  ∃ g1 c1 g2 c2, e = .returned (.tuple #[.slice (some ⟨g1, 0, none⟩) n c1, .slice (some ⟨g2, 0, none⟩) n c2]) ∧ w.heap.size ≤ g1 ∧ w.heap.size ≤ g2 ∧ g1 ≠ g2 ∧ Row w' g1 3 (nums .i64 xs) ∧ Row w' g2 3 (nums .i64 ys) ∧ Upd [] w w'

theorem Row.setClsI {w : World} {g : Nat} {ty : TypeId} {l : List Cl} (h : Row w g ty (nums .i64 (clsI l))) (j : Nat) (x : Cl) (hj : j < l.length) : Row (w.setCell ⟨g, j, none⟩ (.int .i64 x.e1)) g ty (nums .i64 (clsI (l.set j x))) := by
  have := h.setNum j x.e1 (by rw [clsI_length]; exact hj)
  rwa [show (clsI l).set j x.e1 = clsI (l.set j x) by simp [clsI, List.map_set]] at this

/-- What the loop over the characters holds ahead of place j. -/
structure XLoop (cs : List Cl) (base : Int) (w : World) (B b gl gt gm g cap j : Nat) (lv : List Int) (ty : List Cl) (wr : World) : Prop where
  ex : ExA wr B b g cap (xs cs base j)
  rl : Row wr gl 3 (nums .i64 lv)
  rt : Row wr gt 3 (nums .i64 (clsI ty))
  rm : Row wr gm 3 (nums .i64 (mt cs))
  ll : lv.length = cs.length
  tl : ty.length = cs.length
  lq : ∀ q, q < j → nth lv q = xlv cs base q
  tq : ∀ q, q < j → cat ty q = xty cs base q
  tr : ∀ q, j ≤ q → cat ty q = cat cs q
  up : Upd [] w wr
  sz : B ≤ wr.heap.size

set_option maxHeartbeats 4000000 in
set_option maxRecDepth 100000 in
theorem sExplicit_any (A : Option Addr) (c : Nat) (cs : List Cl) (base : Int) (w : World) (hr : Rd w A (nums .i64 (clsI cs))) (hn : 0 < cs.length) (hm : cs.length ≤ 2147483647) (hbase : base = 0 ∨ base = 1) :
    Calls Tryz.prog 32 #[.slice A cs.length c, .int .i64 base] w (RetTwo w cs.length (lvs cs base) (clsI (tys cs base))) := by
  obtain ⟨i0, hi', hz0, hz1, hz2⟩ := info_parts info3
  obtain ⟨ga, oa, rfl, hca⟩ := hr.some (by rw [nums_length, clsI_length]; exact hn)
  have hga : ga < w.heap.size := World.block_lt_of_cell? w _ (hca 0 _ (List.getElem?_eq_getElem (by rw [nums_length, clsI_length]; exact hn)))
  have HCA := Lib.hid hca
  clear hca
  have HB := Lib.hid hbase
  clear hbase
  go_enter Tryz.func32, Tryz.ntmps32
  go_wp2_with (at_make; refine wpList_make_full _ rfl _ _ 22 rfl w.heap.size 3 i0 (.int .i64 0) 1 Tryz.underlying22 hi' hz0 hz1 _ _ _ _ cs.length rfl rfl rfl rfl ?b1 ?b2 ?b3 ?_)
  case b1 => rw [hz2]; omega
  case b2 => unfold maxLen; omega
  case b3 => exact Nat.le_refl _
  intro w1 hown hgrow
  rw [made_nums] at hown
  have hL := Row.of_owns hown
  have hu1 : Upd [] w w1 := (Upd.refl _ _).grown0 hgrow
  have hlt0 := hL.lt
  clear hgrow hown
  have hown := World.ownsRow_lit (base := w1.heap.size) (e := 3) (size := 1) w1 #[] 0 (Nat.le_refl _) (by decide) rfl
  have HC1 : Hid (∀ j u, (nums .i64 (clsI cs))[j]? = some u → (w1.alloc (.cells #[] 3)).cell? ((⟨ga, oa, none⟩ : Addr).add j) = some u) := by
    intro j u hj
    rw [Addr.add_lit, World.cell?_alloc_past _ _ _ (by omega)]
    exact hu1.cell (p := ⟨ga, oa + j, none⟩) (HCA.out j u hj) (by simp)
  go_wp2_with (at_builtin; go_must (refine wpList_append_own _ rfl (.tmp 16) (.tmp 17) 22 rfl w1.heap.size 3 i0 (.int .i64 0) 1 8 Tryz.underlying22 hi' hz0 hz1 hz2 rfl (by decide) _ 0 [] rfl hown ⟨ga, oa, none⟩ cs.length c (nums .i64 (clsI cs)) rfl (by rw [nums_length, clsI_length]; omega) HC1.out (nums_one _ _) (by unfold maxLen; omega) (by omega) (by simp) ?_); intro v2 w2 hown2 hgrow2 _)
  rw [Nat.zero_add, List.nil_append] at hown2
  obtain ⟨gt, ct, rfl, hgt⟩ := owns_slice hown2 hn
  have hT := Row.of_owns hown2
  have hu2 : Upd [] w w2 := (hu1.alloc _).grown hgrow2 (fun k e => by cases e; exact .inr (by show _ ≤ w1.heap.size; omega))
  have hL2 := (hL.alloc (.cells #[] 3)).grown hgrow2 (by intro e; have := Option.some.inj e; simp only [] at this; omega)
  have hsz2 : w1.heap.size < w2.heap.size := by have := hgrow2.size; simp at this; omega
  clear hgrow2 hown2 hown HC1
  go_wp2_with (go_at_call 31; refine (matching_any _ _ _ _ (hr.keep hu2) hm).mono ?_; rintro e w3 ⟨rfl, hM, hu3⟩)
  have hTlt := hT.lt
  have hL3 := hL2.upd hu3 (by simp)
  have hT3 := hT.upd hu3 (by simp)
  have hu03 := hu2.then hu3
  have hsz3 : w2.heap.size < w3.heap.size := hM.lt
  have hOwn := World.ownsRow_lit (base := w3.heap.size) (e := 91) (size := 3) w3 #[.int .i64 base, .int .i64 (-1), .bool false] 1 (Nat.le_refl _) (by decide) rfl
  have hx0 : ∃ g cap lv ty, XLoop cs base w w3.heap.size (w3.heap.size + 1) w.heap.size gt w2.heap.size g cap 0 lv ty ((w3.alloc (Obj.cells #[Value.int IntKind.i64 base, Value.int IntKind.i64 (-1), Value.bool false] 91)).alloc (Obj.cells #[Value.slice (some { block := w3.heap.size, off := 0 }) 1 1, Value.int IntKind.i64 0, Value.int IntKind.i64 0, Value.int IntKind.i64 0] 94)) := by
    refine ⟨w3.heap.size, 1, _, cs, ⟨?_, ?_⟩, (hL3.alloc _).alloc _, (hT3.alloc _).alloc _, (hM.alloc _).alloc _, by simp, rfl, (fun q h => by omega), (fun q h => by omega), (fun q h => rfl), (hu03.alloc _).alloc _, by simp; omega⟩
    · have := Row.new (w3.alloc (Obj.cells #[Value.int IntKind.i64 base, Value.int IntKind.i64 (-1), Value.bool false] 91)) 94 [Value.slice (some { block := w3.heap.size, off := 0 }) 1 1, Value.int IntKind.i64 0, Value.int IntKind.i64 0, Value.int IntKind.i64 0]
      simpa [xs] using this
    · exact hOwn.alloc _
  have hne1 : w.heap.size ≠ gt := by omega
  have hne2 : w.heap.size ≠ w2.heap.size := by omega
  have hne3 : gt ≠ w2.heap.size := by omega
  have hb3 : w.heap.size ≤ w3.heap.size := by omega
  have hb4 : w.heap.size ≤ w3.heap.size + 1 := by omega
  generalize w3.heap.size + 1 = b at *
  generalize w3.heap.size = B at *
  have hgt0 : w.heap.size ≤ gt := by omega
  generalize w2.heap.size = gm at *
  obtain ⟨g0, cap0, lv0, ty0, hx0⟩ := hx0
  clear hOwn hu03 hT3 hL3 hu3 hM hL2 hu2 hT hu1 hL hsz3 hsz2 hTlt
  go_loopg [27] (cs.length + 1) (fun k i wr => ∃ (j g cap : Nat) (lv : List Int) (ty : List Cl), i = .int .i64 j ∧ j ≤ cs.length ∧ XLoop cs base w B b w.heap.size gt gm g cap j lv ty wr ∧ Hid (cs.length + 1 - j ≤ k))
  case atStart => exact ⟨0, g0, cap0, lv0, ty0, rfl, by omega, hx0, Nat.le_refl _⟩
  case round =>
    clear hx0
    obtain ⟨j, g, cap, lv, ty, rfl, hj, hX, hk⟩ := hrel
    by_cases hlt : j < cs.length
    · have hc : wr.cell? ⟨ga, oa + j, none⟩ = some (.int .i64 (cat cs j).e1) := by
        have := hX.up.cell (p := ⟨ga, oa + j, none⟩) (HCA.out j _ (List.getElem?_eq_getElem (by rw [nums_length, clsI_length]; exact hlt))) (by simp)
        rw [this, nums_get, nth_clsI hlt]
      have hok := xs_ok cs HB.out j
      have hcnt := xs_cnt cs base j
      obtain ⟨hE, hL, hT, hM, hll, htl, hlq, htq, htr, hu, hsz⟩ := hX
      have hll' : j < lv.length := by omega
      have htl' : j < ty.length := by omega
      have hbgl := hE.row.ne_type hL (by decide)
      have hbgt := hE.row.ne_type hT (by decide)
      have hggl := (Row.of_owns hE.own).ne_type hL (by decide)
      have hggt := (Row.of_owns hE.own).ne_type hT (by decide)
      have hggm := (Row.of_owns hE.own).ne_type hM (by decide)
      have hbgm := hE.row.ne_type hM (by decide)
      by_cases hp : plain (cat cs j) = true
      · obtain ⟨t, r, hst, htop, hlv0, hlv1⟩ := hok.top
        have hstep : xs cs base (j + 1) = xs cs base j := xstep_plain hp
        have hlv : xlv cs base j = t.lv := by rw [xlv_plain hp, htop]
        have hty : xty cs base j = t.ov.getD (cat cs j) := by rw [xty_plain hp, htop]
        obtain ⟨p1, p2, p3, p4, p5, p6, p7, p8, p9, p10, p11⟩ := plain_tests hp
        have c0 := hE.cells.1
        have hrow := Row.of_owns hE.own
        rw [hst] at c0 hrow
        have HS := Lib.hid hstep
        have HL := Lib.hid hlv
        have HT := Lib.hid hty
        clear hstep hlv hty hst hp
        cases hov : t.ov with
        | none =>
          have hov1 : ov1 t.ov = -1 := by rw [hov]; rfl
          have HOV := Lib.hid hov
          clear hov
          go_wp2_with (first
            | (go_at_call 61; refine (top_any b g cap t r _ c0 hrow (by omega)).mono ?_; rw [hov1]; rintro e w1 ⟨rfl, hu1⟩; have hE1 := hE.upd hu1 (by simp) (by simp); have hL1 := hL.upd hu1 (by simp); have hT1 := hT.upd hu1 (by simp); have hM1 := hM.upd hu1 (by simp); have cL := hL1.num j hll'; have fL := hL1.free j; have hs1 := hL1.lt; have cT := hT1.num j (by rw [clsI_length]; exact htl'); have fT := hT1.free j; have ht1 := hT1.lt)
            | (go_at_call 62; refine (isRem_any _ _).mono ?_; rw [p11]; rintro e w' ⟨rfl, rfl⟩))
          go_roundg (cs.length + 1 - (j + 1))
          case measure => have := hk.out; omega
          case rel =>
            refine ⟨j + 1, g, cap, lv.set j t.lv, ty, by go_num, by omega, ⟨?_, (hL1.setNum j _ hll').alloc _, (hT1.other (p := ⟨w.heap.size, j, none⟩) (Ne.symm hne1) _).alloc _, (hM1.other (p := ⟨w.heap.size, j, none⟩) (Ne.symm hne2) _).alloc _, by simpa using hll, htl, ?_, ?_, fun q hq => htr q (by omega), ((hu.then hu1).setCell (p := ⟨w.heap.size, j, none⟩) (.inr (Nat.le_refl _)) _).alloc _, by have := hu1.size; simp; omega⟩, Nat.le_refl _⟩
            · rw [HS.out]
              exact hE1.upd (S := [w.heap.size]) (((Upd.refl _ _).setCell (p := ⟨w.heap.size, j, none⟩) (.inl (by simp)) _).alloc _) (by simp; omega) (by simp; omega)
            · exact forall_succ (fun q hq => by rw [nth_set_ne (by omega)]; exact hlq q hq) (by rw [nth_set_self hll', HL.out])
            · exact forall_succ htq (by rw [HT.out, HOV.out]; exact htr j (Nat.le_refl _))
        | some x =>
          have hov1 : ov1 t.ov = x.e1 := by rw [hov]; rfl
          have hx0 := x.e1_range.1
          have HOV := Lib.hid hov
          clear hov
          go_wp2_with (first
            | (go_at_call 61; refine (top_any b g cap t r _ c0 hrow (by omega)).mono ?_; rw [hov1]; rintro e w1 ⟨rfl, hu1⟩; have hE1 := hE.upd hu1 (by simp) (by simp); have hL1 := hL.upd hu1 (by simp); have hT1 := hT.upd hu1 (by simp); have hM1 := hM.upd hu1 (by simp); have cL := hL1.num j hll'; have fL := hL1.free j; have hs1 := hL1.lt; have cT := hT1.num j (by rw [clsI_length]; exact htl'); have fT := hT1.free j; have ht1 := hT1.lt)
            | (go_at_call 62; refine (isRem_any _ _).mono ?_; rw [p11]; rintro e w' ⟨rfl, rfl⟩))
          go_roundg (cs.length + 1 - (j + 1))
          case measure => have := hk.out; omega
          case rel =>
            refine ⟨j + 1, g, cap, lv.set j t.lv, ty.set j x, by go_num, by omega, ⟨?_, ((hL1.setNum j _ hll').other (p := ⟨gt, j, none⟩) hne1 _).alloc _, ((hT1.other (p := ⟨w.heap.size, j, none⟩) (Ne.symm hne1) _).setClsI j x htl').alloc _, ((hM1.other (p := ⟨w.heap.size, j, none⟩) (Ne.symm hne2) _).other (p := ⟨gt, j, none⟩) (Ne.symm hne3) _).alloc _, by simpa using hll, by simpa using htl, ?_, ?_, fun q hq => by rw [cat_set_ne (by omega)]; exact htr q (by omega), (((hu.then hu1).setCell (p := ⟨w.heap.size, j, none⟩) (.inr (Nat.le_refl _)) _).setCell (p := ⟨gt, j, none⟩) (.inr (by show _ ≤ gt; omega)) _).alloc _, by have := hu1.size; simp; omega⟩, Nat.le_refl _⟩
            · rw [HS.out]
              exact hE1.upd (S := [w.heap.size, gt]) ((((Upd.refl _ _).setCell (p := ⟨w.heap.size, j, none⟩) (.inl (by simp)) _).setCell (p := ⟨gt, j, none⟩) (.inl (by simp)) _).alloc _) (by simp; omega) (by simp; omega)
            · exact forall_succ (fun q hq => by rw [nth_set_ne (by omega)]; exact hlq q hq) (by rw [nth_set_self hll', HL.out])
            · exact forall_succ (fun q hq => by rw [cat_set_ne (by omega)]; exact htq q hq) (by rw [cat_set_self htl', HT.out, HOV.out]; rfl)
      · have hb0 : 0 ≤ base := by have := HB.out; omega
        by_cases hpd : cat cs j = .PDI
        · have hok2 := hok.end_
          obtain ⟨t, r, hst, htop, hlv0, hlv1⟩ := hok2.top
          have HR := Lib.hid (fun w => isRem_any Cl.PDI w)
          simp only [Cl.e1, Cl.isRem] at HR
          have hgB := hE.ge.1
          have HL : Hid (xlv cs base j = t.lv) := by show _ = _; simp [xlv, xtop, hpd, htop, Cl.isRem]
          have HT : Hid (xty cs base j = t.ov.getD (cat cs j)) := by show _ = _; simp [xty, xtop, hpd, htop, Cl.isRem]
          have HS : Hid (xs cs base (j + 1) = (xs cs base j).end_) := by show xstep cs j _ = _; rw [xstep, hpd]
          rw [hpd] at hc
          simp only [Cl.e1] at hc
          have HC := Lib.hid hpd
          clear hpd
          have HST := Lib.hid hst
          rw [show (xs cs base j).end_.st = t :: r from HST.out] at hst
          clear hst
          have hst := HST.out
          cases hov : t.ov with
          | none =>
            have hov1 : ov1 t.ov = -1 := by rw [hov]; rfl
            have HOV := Lib.hid hov
            clear hov
            go_wp2_with (first
              | (go_at_call 60; refine (end_any B b g cap (xs cs base j) base _ hE hok hb0 (by omega) (by omega)).mono ?_; rintro e w1 ⟨rfl, hB1⟩; obtain ⟨g1, cap1, hE1, hu1⟩ := hB1; have hL1 := hL.upd hu1 (by simp; omega); have hT1 := hT.upd hu1 (by simp; omega); have hM1 := hM.upd hu1 (by simp; omega); have hrow := Row.of_owns hE1.own; have c0 := hE1.cells.1; rw [hst] at c0 hrow)
              | (go_at_call 61; refine (top_any b g1 cap1 t r _ c0 hrow (by omega)).mono ?_; rw [hov1]; rintro e w2 ⟨rfl, hu2⟩; have hE2 := hE1.upd hu2 (by simp) (by simp); have hL2 := hL1.upd hu2 (by simp); have hT2 := hT1.upd hu2 (by simp); have hM2 := hM1.upd hu2 (by simp); have cL := hL2.num j hll'; have fL := hL2.free j; have hs1 := hL2.lt; have cT := hT2.num j (by rw [clsI_length]; exact htl'); have fT := hT2.free j; have ht1 := hT2.lt)
              | (go_at_call 62; refine (HR.out _).mono ?_; rintro e w' ⟨rfl, rfl⟩))
            go_roundg (cs.length + 1 - (j + 1))
            case measure => have := hk.out; omega
            case rel =>
              have hg2 := (Row.of_owns hE2.own).ne_type hL2 (by decide)
              have hg3 := (Row.of_owns hE2.own).ne_type hT2 (by decide)
              refine ⟨j + 1, g1, cap1, lv.set j t.lv, ty, by go_num, by omega, ⟨?_, (hL2.setNum j t.lv hll').alloc _, (hT2.other (p := ⟨w.heap.size, j, none⟩) (Ne.symm hne1) _).alloc _, (hM2.other (p := ⟨w.heap.size, j, none⟩) (Ne.symm hne2) _).alloc _, by simpa using hll, htl, ?_, ?_, fun q hq => htr q (by omega), (((hu.step hu1 (fun x hx => by simp at hx; exact .inr (by omega))).then hu2).setCell (p := ⟨w.heap.size, j, none⟩) (.inr (Nat.le_refl _)) _).alloc _, by have := hu1.size; have := hu2.size; simp at *; omega⟩, Nat.le_refl _⟩
              · rw [HS.out]
                exact hE2.upd (S := [w.heap.size]) (((Upd.refl _ _).setCell (p := ⟨w.heap.size, j, none⟩) (.inl (by simp)) _).alloc _) (by simp; omega) (by simp; omega)
              · exact forall_succ (fun q hq => by rw [nth_set_ne (by omega)]; exact hlq q hq) (by rw [nth_set_self hll', HL.out])
              · exact forall_succ htq (by rw [HT.out, HOV.out]; exact htr j (Nat.le_refl _))
          | some x =>
            have hov1 : ov1 t.ov = x.e1 := by rw [hov]; rfl
            have hx0 := x.e1_range.1
            have HOV := Lib.hid hov
            clear hov
            go_wp2_with (first
              | (go_at_call 60; refine (end_any B b g cap (xs cs base j) base _ hE hok hb0 (by omega) (by omega)).mono ?_; rintro e w1 ⟨rfl, hB1⟩; obtain ⟨g1, cap1, hE1, hu1⟩ := hB1; have hL1 := hL.upd hu1 (by simp; omega); have hT1 := hT.upd hu1 (by simp; omega); have hM1 := hM.upd hu1 (by simp; omega); have hrow := Row.of_owns hE1.own; have c0 := hE1.cells.1; rw [hst] at c0 hrow)
              | (go_at_call 61; refine (top_any b g1 cap1 t r _ c0 hrow (by omega)).mono ?_; rw [hov1]; rintro e w2 ⟨rfl, hu2⟩; have hE2 := hE1.upd hu2 (by simp) (by simp); have hL2 := hL1.upd hu2 (by simp); have hT2 := hT1.upd hu2 (by simp); have hM2 := hM1.upd hu2 (by simp); have cL := hL2.num j hll'; have fL := hL2.free j; have hs1 := hL2.lt; have cT := hT2.num j (by rw [clsI_length]; exact htl'); have fT := hT2.free j; have ht1 := hT2.lt)
              | (go_at_call 62; refine (HR.out _).mono ?_; rintro e w' ⟨rfl, rfl⟩))
            go_roundg (cs.length + 1 - (j + 1))
            case measure => have := hk.out; omega
            case rel =>
              have hg2 := (Row.of_owns hE2.own).ne_type hL2 (by decide)
              have hg3 := (Row.of_owns hE2.own).ne_type hT2 (by decide)
              refine ⟨j + 1, g1, cap1, lv.set j t.lv, ty.set j x, by go_num, by omega, ⟨?_, ((hL2.setNum j t.lv hll').other (p := ⟨gt, j, none⟩) hne1 _).alloc _, ((hT2.other (p := ⟨w.heap.size, j, none⟩) (Ne.symm hne1) _).setClsI j x htl').alloc _, ((hM2.other (p := ⟨w.heap.size, j, none⟩) (Ne.symm hne2) _).other (p := ⟨gt, j, none⟩) (Ne.symm hne3) _).alloc _, by simpa using hll, by simpa using htl, ?_, ?_, fun q hq => by rw [cat_set_ne (by omega)]; exact htr q (by omega), ((((hu.step hu1 (fun x hx => by simp at hx; exact .inr (by omega))).then hu2).setCell (p := ⟨w.heap.size, j, none⟩) (.inr (Nat.le_refl _)) _).setCell (p := ⟨gt, j, none⟩) (.inr (by show _ ≤ gt; omega)) _).alloc _, by have := hu1.size; have := hu2.size; simp at *; omega⟩, Nat.le_refl _⟩
              · rw [HS.out]
                exact hE2.upd (S := [w.heap.size, gt]) ((((Upd.refl _ _).setCell (p := ⟨w.heap.size, j, none⟩) (.inl (by simp)) _).setCell (p := ⟨gt, j, none⟩) (.inl (by simp)) _).alloc _) (by simp; omega) (by simp; omega)
              · exact forall_succ (fun q hq => by rw [nth_set_ne (by omega)]; exact hlq q hq) (by rw [nth_set_self hll', HL.out])
              · exact forall_succ (fun q hq => by rw [cat_set_ne (by omega)]; exact htq q hq) (by rw [cat_set_self htl', HT.out, HOV.out]; rfl)
        obtain ⟨t, r, hst, htop, hlv0, hlv1⟩ := hok.top
        have c0 := hE.cells.1
        have hrow := Row.of_owns hE.own
        rw [hst] at c0 hrow
        have HST := Lib.hid hst
        clear hst
        have hgB := hE.ge.1
        generalize hov1 : ov1 t.ov = o
        cases hcl : cat cs j
        case L => exact absurd (by rw [hcl]; rfl) hp
        case R => exact absurd (by rw [hcl]; rfl) hp
        case EN => exact absurd (by rw [hcl]; rfl) hp
        case ES => exact absurd (by rw [hcl]; rfl) hp
        case ET => exact absurd (by rw [hcl]; rfl) hp
        case AN => exact absurd (by rw [hcl]; rfl) hp
        case CS => exact absurd (by rw [hcl]; rfl) hp
        case S => exact absurd (by rw [hcl]; rfl) hp
        case WS => exact absurd (by rw [hcl]; rfl) hp
        case ON => exact absurd (by rw [hcl]; rfl) hp
        case NSM => exact absurd (by rw [hcl]; rfl) hp
        case AL => exact absurd (by rw [hcl]; rfl) hp
        case PDI => exact absurd hcl hpd
        case RLE =>
          have HR := Lib.hid (fun w => isRem_any Cl.RLE w)
          simp only [Cl.e1, Cl.isRem] at HR
          have e1c : Cl.RLE.e1 = Cl.RLE.e1 := rfl
          rw [hcl] at hc
          simp only [Cl.e1] at hc
          have HL : Hid (xlv cs base j = -1) := by show _ = _; simp [xlv, hcl, Cl.isRem]
          have HT : Hid (xty cs base j = cat cs j) := by show _ = _; simp [xty, hcl, Cl.isRem]
          have HS : Hid (xs cs base (j + 1) = (xs cs base j).embed 1 none) := by show xstep cs j _ = _; rw [xstep, hcl]
          have HC := Lib.hid hcl
          clear hcl e1c
          by_cases h0 : 0 ≤ o
          all_goals
            go_wp2_with (first
              | (go_at_call 61; refine (top_any b g cap t r _ c0 hrow (by omega)).mono ?_; rw [hov1]; rintro e w1 ⟨rfl, hu1⟩; have hE1 := hE.upd hu1 (by simp) (by simp); have hL1 := hL.upd hu1 (by simp); have hT1 := hT.upd hu1 (by simp); have hM1 := hM.upd hu1 (by simp); have cL := hL1.num j hll'; have fL := hL1.free j; have hs1 := hL1.lt; have cT := hT1.num j (by rw [clsI_length]; exact htl'); have fT := hT1.free j; have ht1 := hT1.lt)
              | (go_at_call 62; refine (HR.out _).mono ?_; rintro e w' ⟨rfl, rfl⟩)
              | (go_at_call 63; refine (embed_any B b g cap (xs cs base j) base 1 none _ (hE1.upd (S := [w.heap.size]) (((Upd.refl _ _).setCell (p := ⟨w.heap.size, j, none⟩) (.inl (by simp)) _).alloc _) (by simp; omega) (by simp; omega)) hok hb0 (by have := hu1.size; simp; omega) (.inr rfl) (by omega)).mono ?_; rintro e w2 ⟨rfl, hB2⟩; obtain ⟨g2, cap2, hE2, hu2⟩ := hB2; have hL2 := ((hL1.setNum j t.lv hll').alloc _).upd hu2 (by simp; omega); have cL2 := hL2.num j (by simpa using hll'); have fL2 := hL2.free j))
            go_roundg (cs.length + 1 - (j + 1))
            case measure => have := hk.out; omega
            case rel =>
              have hg2 := (Row.of_owns hE2.own).ne_type hL2 (by decide)
              have hT2 := ((hT1.other (p := ⟨w.heap.size, j, none⟩) (Ne.symm hne1) _).alloc _).upd hu2 (by simp; omega)
              have hM2 := ((hM1.other (p := ⟨w.heap.size, j, none⟩) (Ne.symm hne2) _).alloc _).upd hu2 (by simp; omega)
              refine ⟨j + 1, g2, cap2, (lv.set j t.lv).set j (-1), ty, by go_num, by omega, ⟨?_, hL2.setNum j _ (by simpa using hll'), hT2.other (p := ⟨w.heap.size, j, none⟩) (Ne.symm hne1) _, hM2.other (p := ⟨w.heap.size, j, none⟩) (Ne.symm hne2) _, by simpa using hll, htl, ?_, ?_, fun q hq => htr q (by omega), ((((hu.then hu1).setCell (p := ⟨w.heap.size, j, none⟩) (.inr (Nat.le_refl _)) _).alloc _).step hu2 (fun x hx => by simp at hx; exact .inr (by omega))).setCell (p := ⟨w.heap.size, j, none⟩) (.inr (Nat.le_refl _)) _, by have := hu1.size; have := hu2.size; simp at *; omega⟩, Nat.le_refl _⟩
              · rw [HS.out]
                exact hE2.upd (S := [w.heap.size]) ((Upd.refl _ _).setCell (p := ⟨w.heap.size, j, none⟩) (.inl (by simp)) _) (by simp; omega) (by simp; omega)
              · exact forall_succ (fun q hq => by rw [nth_set_ne (by omega), nth_set_ne (by omega)]; exact hlq q hq) (by rw [nth_set_self (by simpa using hll'), HL.out])
              · exact forall_succ htq (by rw [HT.out]; exact htr j (Nat.le_refl _))
        case LRE =>
          have HR := Lib.hid (fun w => isRem_any Cl.LRE w)
          simp only [Cl.e1, Cl.isRem] at HR
          have e1c : Cl.LRE.e1 = Cl.LRE.e1 := rfl
          rw [hcl] at hc
          simp only [Cl.e1] at hc
          have HL : Hid (xlv cs base j = -1) := by show _ = _; simp [xlv, hcl, Cl.isRem]
          have HT : Hid (xty cs base j = cat cs j) := by show _ = _; simp [xty, hcl, Cl.isRem]
          have HS : Hid (xs cs base (j + 1) = (xs cs base j).embed 0 none) := by show xstep cs j _ = _; rw [xstep, hcl]
          have HC := Lib.hid hcl
          clear hcl e1c
          by_cases h0 : 0 ≤ o
          all_goals
            go_wp2_with (first
              | (go_at_call 61; refine (top_any b g cap t r _ c0 hrow (by omega)).mono ?_; rw [hov1]; rintro e w1 ⟨rfl, hu1⟩; have hE1 := hE.upd hu1 (by simp) (by simp); have hL1 := hL.upd hu1 (by simp); have hT1 := hT.upd hu1 (by simp); have hM1 := hM.upd hu1 (by simp); have cL := hL1.num j hll'; have fL := hL1.free j; have hs1 := hL1.lt; have cT := hT1.num j (by rw [clsI_length]; exact htl'); have fT := hT1.free j; have ht1 := hT1.lt)
              | (go_at_call 62; refine (HR.out _).mono ?_; rintro e w' ⟨rfl, rfl⟩)
              | (go_at_call 63; refine (embed_any B b g cap (xs cs base j) base 0 none _ (hE1.upd (S := [w.heap.size]) (((Upd.refl _ _).setCell (p := ⟨w.heap.size, j, none⟩) (.inl (by simp)) _).alloc _) (by simp; omega) (by simp; omega)) hok hb0 (by have := hu1.size; simp; omega) (.inl rfl) (by omega)).mono ?_; rintro e w2 ⟨rfl, hB2⟩; obtain ⟨g2, cap2, hE2, hu2⟩ := hB2; have hL2 := ((hL1.setNum j t.lv hll').alloc _).upd hu2 (by simp; omega); have cL2 := hL2.num j (by simpa using hll'); have fL2 := hL2.free j))
            go_roundg (cs.length + 1 - (j + 1))
            case measure => have := hk.out; omega
            case rel =>
              have hg2 := (Row.of_owns hE2.own).ne_type hL2 (by decide)
              have hT2 := ((hT1.other (p := ⟨w.heap.size, j, none⟩) (Ne.symm hne1) _).alloc _).upd hu2 (by simp; omega)
              have hM2 := ((hM1.other (p := ⟨w.heap.size, j, none⟩) (Ne.symm hne2) _).alloc _).upd hu2 (by simp; omega)
              refine ⟨j + 1, g2, cap2, (lv.set j t.lv).set j (-1), ty, by go_num, by omega, ⟨?_, hL2.setNum j _ (by simpa using hll'), hT2.other (p := ⟨w.heap.size, j, none⟩) (Ne.symm hne1) _, hM2.other (p := ⟨w.heap.size, j, none⟩) (Ne.symm hne2) _, by simpa using hll, htl, ?_, ?_, fun q hq => htr q (by omega), ((((hu.then hu1).setCell (p := ⟨w.heap.size, j, none⟩) (.inr (Nat.le_refl _)) _).alloc _).step hu2 (fun x hx => by simp at hx; exact .inr (by omega))).setCell (p := ⟨w.heap.size, j, none⟩) (.inr (Nat.le_refl _)) _, by have := hu1.size; have := hu2.size; simp at *; omega⟩, Nat.le_refl _⟩
              · rw [HS.out]
                exact hE2.upd (S := [w.heap.size]) ((Upd.refl _ _).setCell (p := ⟨w.heap.size, j, none⟩) (.inl (by simp)) _) (by simp; omega) (by simp; omega)
              · exact forall_succ (fun q hq => by rw [nth_set_ne (by omega), nth_set_ne (by omega)]; exact hlq q hq) (by rw [nth_set_self (by simpa using hll'), HL.out])
              · exact forall_succ htq (by rw [HT.out]; exact htr j (Nat.le_refl _))
        case RLO =>
          have HR := Lib.hid (fun w => isRem_any Cl.RLO w)
          simp only [Cl.e1, Cl.isRem] at HR
          have e1c : Cl.RLO.e1 = Cl.RLO.e1 := rfl
          rw [hcl] at hc
          simp only [Cl.e1] at hc
          have HL : Hid (xlv cs base j = -1) := by show _ = _; simp [xlv, hcl, Cl.isRem]
          have HT : Hid (xty cs base j = cat cs j) := by show _ = _; simp [xty, hcl, Cl.isRem]
          have HS : Hid (xs cs base (j + 1) = (xs cs base j).embed 1 (some .R)) := by show xstep cs j _ = _; rw [xstep, hcl]
          have HC := Lib.hid hcl
          clear hcl e1c
          by_cases h0 : 0 ≤ o
          all_goals
            go_wp2_with (first
              | (go_at_call 61; refine (top_any b g cap t r _ c0 hrow (by omega)).mono ?_; rw [hov1]; rintro e w1 ⟨rfl, hu1⟩; have hE1 := hE.upd hu1 (by simp) (by simp); have hL1 := hL.upd hu1 (by simp); have hT1 := hT.upd hu1 (by simp); have hM1 := hM.upd hu1 (by simp); have cL := hL1.num j hll'; have fL := hL1.free j; have hs1 := hL1.lt; have cT := hT1.num j (by rw [clsI_length]; exact htl'); have fT := hT1.free j; have ht1 := hT1.lt)
              | (go_at_call 62; refine (HR.out _).mono ?_; rintro e w' ⟨rfl, rfl⟩)
              | (go_at_call 63; refine (embed_any B b g cap (xs cs base j) base 1 (some .R) _ (hE1.upd (S := [w.heap.size]) (((Upd.refl _ _).setCell (p := ⟨w.heap.size, j, none⟩) (.inl (by simp)) _).alloc _) (by simp; omega) (by simp; omega)) hok hb0 (by have := hu1.size; simp; omega) (.inr rfl) (by omega)).mono ?_; rintro e w2 ⟨rfl, hB2⟩; obtain ⟨g2, cap2, hE2, hu2⟩ := hB2; have hL2 := ((hL1.setNum j t.lv hll').alloc _).upd hu2 (by simp; omega); have cL2 := hL2.num j (by simpa using hll'); have fL2 := hL2.free j))
            go_roundg (cs.length + 1 - (j + 1))
            case measure => have := hk.out; omega
            case rel =>
              have hg2 := (Row.of_owns hE2.own).ne_type hL2 (by decide)
              have hT2 := ((hT1.other (p := ⟨w.heap.size, j, none⟩) (Ne.symm hne1) _).alloc _).upd hu2 (by simp; omega)
              have hM2 := ((hM1.other (p := ⟨w.heap.size, j, none⟩) (Ne.symm hne2) _).alloc _).upd hu2 (by simp; omega)
              refine ⟨j + 1, g2, cap2, (lv.set j t.lv).set j (-1), ty, by go_num, by omega, ⟨?_, hL2.setNum j _ (by simpa using hll'), hT2.other (p := ⟨w.heap.size, j, none⟩) (Ne.symm hne1) _, hM2.other (p := ⟨w.heap.size, j, none⟩) (Ne.symm hne2) _, by simpa using hll, htl, ?_, ?_, fun q hq => htr q (by omega), ((((hu.then hu1).setCell (p := ⟨w.heap.size, j, none⟩) (.inr (Nat.le_refl _)) _).alloc _).step hu2 (fun x hx => by simp at hx; exact .inr (by omega))).setCell (p := ⟨w.heap.size, j, none⟩) (.inr (Nat.le_refl _)) _, by have := hu1.size; have := hu2.size; simp at *; omega⟩, Nat.le_refl _⟩
              · rw [HS.out]
                exact hE2.upd (S := [w.heap.size]) ((Upd.refl _ _).setCell (p := ⟨w.heap.size, j, none⟩) (.inl (by simp)) _) (by simp; omega) (by simp; omega)
              · exact forall_succ (fun q hq => by rw [nth_set_ne (by omega), nth_set_ne (by omega)]; exact hlq q hq) (by rw [nth_set_self (by simpa using hll'), HL.out])
              · exact forall_succ htq (by rw [HT.out]; exact htr j (Nat.le_refl _))
        case LRO =>
          have HR := Lib.hid (fun w => isRem_any Cl.LRO w)
          simp only [Cl.e1, Cl.isRem] at HR
          have e1c : Cl.LRO.e1 = Cl.LRO.e1 := rfl
          rw [hcl] at hc
          simp only [Cl.e1] at hc
          have HL : Hid (xlv cs base j = -1) := by show _ = _; simp [xlv, hcl, Cl.isRem]
          have HT : Hid (xty cs base j = cat cs j) := by show _ = _; simp [xty, hcl, Cl.isRem]
          have HS : Hid (xs cs base (j + 1) = (xs cs base j).embed 0 (some .L)) := by show xstep cs j _ = _; rw [xstep, hcl]
          have HC := Lib.hid hcl
          clear hcl e1c
          by_cases h0 : 0 ≤ o
          all_goals
            go_wp2_with (first
              | (go_at_call 61; refine (top_any b g cap t r _ c0 hrow (by omega)).mono ?_; rw [hov1]; rintro e w1 ⟨rfl, hu1⟩; have hE1 := hE.upd hu1 (by simp) (by simp); have hL1 := hL.upd hu1 (by simp); have hT1 := hT.upd hu1 (by simp); have hM1 := hM.upd hu1 (by simp); have cL := hL1.num j hll'; have fL := hL1.free j; have hs1 := hL1.lt; have cT := hT1.num j (by rw [clsI_length]; exact htl'); have fT := hT1.free j; have ht1 := hT1.lt)
              | (go_at_call 62; refine (HR.out _).mono ?_; rintro e w' ⟨rfl, rfl⟩)
              | (go_at_call 63; refine (embed_any B b g cap (xs cs base j) base 0 (some .L) _ (hE1.upd (S := [w.heap.size]) (((Upd.refl _ _).setCell (p := ⟨w.heap.size, j, none⟩) (.inl (by simp)) _).alloc _) (by simp; omega) (by simp; omega)) hok hb0 (by have := hu1.size; simp; omega) (.inl rfl) (by omega)).mono ?_; rintro e w2 ⟨rfl, hB2⟩; obtain ⟨g2, cap2, hE2, hu2⟩ := hB2; have hL2 := ((hL1.setNum j t.lv hll').alloc _).upd hu2 (by simp; omega); have cL2 := hL2.num j (by simpa using hll'); have fL2 := hL2.free j))
            go_roundg (cs.length + 1 - (j + 1))
            case measure => have := hk.out; omega
            case rel =>
              have hg2 := (Row.of_owns hE2.own).ne_type hL2 (by decide)
              have hT2 := ((hT1.other (p := ⟨w.heap.size, j, none⟩) (Ne.symm hne1) _).alloc _).upd hu2 (by simp; omega)
              have hM2 := ((hM1.other (p := ⟨w.heap.size, j, none⟩) (Ne.symm hne2) _).alloc _).upd hu2 (by simp; omega)
              refine ⟨j + 1, g2, cap2, (lv.set j t.lv).set j (-1), ty, by go_num, by omega, ⟨?_, hL2.setNum j _ (by simpa using hll'), hT2.other (p := ⟨w.heap.size, j, none⟩) (Ne.symm hne1) _, hM2.other (p := ⟨w.heap.size, j, none⟩) (Ne.symm hne2) _, by simpa using hll, htl, ?_, ?_, fun q hq => htr q (by omega), ((((hu.then hu1).setCell (p := ⟨w.heap.size, j, none⟩) (.inr (Nat.le_refl _)) _).alloc _).step hu2 (fun x hx => by simp at hx; exact .inr (by omega))).setCell (p := ⟨w.heap.size, j, none⟩) (.inr (Nat.le_refl _)) _, by have := hu1.size; have := hu2.size; simp at *; omega⟩, Nat.le_refl _⟩
              · rw [HS.out]
                exact hE2.upd (S := [w.heap.size]) ((Upd.refl _ _).setCell (p := ⟨w.heap.size, j, none⟩) (.inl (by simp)) _) (by simp; omega) (by simp; omega)
              · exact forall_succ (fun q hq => by rw [nth_set_ne (by omega), nth_set_ne (by omega)]; exact hlq q hq) (by rw [nth_set_self (by simpa using hll'), HL.out])
              · exact forall_succ htq (by rw [HT.out]; exact htr j (Nat.le_refl _))
        case PDF =>
          have HR := Lib.hid (fun w => isRem_any Cl.PDF w)
          simp only [Cl.e1, Cl.isRem] at HR
          have e1c : Cl.PDF.e1 = Cl.PDF.e1 := rfl
          rw [hcl] at hc
          simp only [Cl.e1] at hc
          have HL : Hid (xlv cs base j = -1) := by show _ = _; simp [xlv, hcl, Cl.isRem]
          have HT : Hid (xty cs base j = cat cs j) := by show _ = _; simp [xty, hcl, Cl.isRem]
          have HS : Hid (xs cs base (j + 1) = (xs cs base j).pop) := by show xstep cs j _ = _; rw [xstep, hcl]
          have HC := Lib.hid hcl
          clear hcl e1c
          by_cases h0 : 0 ≤ o
          all_goals
            go_wp2_with (first
              | (go_at_call 61; refine (top_any b g cap t r _ c0 hrow (by omega)).mono ?_; rw [hov1]; rintro e w1 ⟨rfl, hu1⟩; have hE1 := hE.upd hu1 (by simp) (by simp); have hL1 := hL.upd hu1 (by simp); have hT1 := hT.upd hu1 (by simp); have hM1 := hM.upd hu1 (by simp); have cL := hL1.num j hll'; have fL := hL1.free j; have hs1 := hL1.lt; have cT := hT1.num j (by rw [clsI_length]; exact htl'); have fT := hT1.free j; have ht1 := hT1.lt)
              | (go_at_call 62; refine (HR.out _).mono ?_; rintro e w' ⟨rfl, rfl⟩)
              | (go_at_call 64; refine (pop_any B b g cap (xs cs base j) base _ (hE1.upd (S := [w.heap.size]) (((Upd.refl _ _).setCell (p := ⟨w.heap.size, j, none⟩) (.inl (by simp)) _).alloc _) (by simp; omega) (by simp; omega)) hok hb0 (by omega)).mono ?_; rintro e w2 ⟨rfl, hB2⟩; obtain ⟨g2, cap2, hE2, hu2⟩ := hB2; have hL2 := ((hL1.setNum j t.lv hll').alloc _).upd hu2 (by simp; omega); have cL2 := hL2.num j (by simpa using hll'); have fL2 := hL2.free j))
            go_roundg (cs.length + 1 - (j + 1))
            case measure => have := hk.out; omega
            case rel =>
              have hg2 := (Row.of_owns hE2.own).ne_type hL2 (by decide)
              have hT2 := ((hT1.other (p := ⟨w.heap.size, j, none⟩) (Ne.symm hne1) _).alloc _).upd hu2 (by simp; omega)
              have hM2 := ((hM1.other (p := ⟨w.heap.size, j, none⟩) (Ne.symm hne2) _).alloc _).upd hu2 (by simp; omega)
              refine ⟨j + 1, g2, cap2, (lv.set j t.lv).set j (-1), ty, by go_num, by omega, ⟨?_, hL2.setNum j _ (by simpa using hll'), hT2.other (p := ⟨w.heap.size, j, none⟩) (Ne.symm hne1) _, hM2.other (p := ⟨w.heap.size, j, none⟩) (Ne.symm hne2) _, by simpa using hll, htl, ?_, ?_, fun q hq => htr q (by omega), ((((hu.then hu1).setCell (p := ⟨w.heap.size, j, none⟩) (.inr (Nat.le_refl _)) _).alloc _).step hu2 (fun x hx => by simp at hx; exact .inr (by omega))).setCell (p := ⟨w.heap.size, j, none⟩) (.inr (Nat.le_refl _)) _, by have := hu1.size; have := hu2.size; simp at *; omega⟩, Nat.le_refl _⟩
              · rw [HS.out]
                exact hE2.upd (S := [w.heap.size]) ((Upd.refl _ _).setCell (p := ⟨w.heap.size, j, none⟩) (.inl (by simp)) _) (by simp; omega) (by simp; omega)
              · exact forall_succ (fun q hq => by rw [nth_set_ne (by omega), nth_set_ne (by omega)]; exact hlq q hq) (by rw [nth_set_self (by simpa using hll'), HL.out])
              · exact forall_succ htq (by rw [HT.out]; exact htr j (Nat.le_refl _))
        case BN =>
          have HR := Lib.hid (fun w => isRem_any Cl.BN w)
          simp only [Cl.e1, Cl.isRem] at HR
          have e1c : Cl.BN.e1 = Cl.BN.e1 := rfl
          rw [hcl] at hc
          simp only [Cl.e1] at hc
          have HL : Hid (xlv cs base j = -1) := by show _ = _; simp [xlv, hcl, Cl.isRem]
          have HT : Hid (xty cs base j = cat cs j) := by show _ = _; simp [xty, hcl, Cl.isRem]
          have HS : Hid (xs cs base (j + 1) = xs cs base j) := by show xstep cs j _ = _; rw [xstep, hcl]
          have HC := Lib.hid hcl
          clear hcl e1c
          by_cases h0 : 0 ≤ o
          all_goals
            go_wp2_with (first
              | (go_at_call 61; refine (top_any b g cap t r _ c0 hrow (by omega)).mono ?_; rw [hov1]; rintro e w1 ⟨rfl, hu1⟩; have hE1 := hE.upd hu1 (by simp) (by simp); have hL1 := hL.upd hu1 (by simp); have hT1 := hT.upd hu1 (by simp); have hM1 := hM.upd hu1 (by simp); have cL := hL1.num j hll'; have fL := hL1.free j; have hs1 := hL1.lt; have cT := hT1.num j (by rw [clsI_length]; exact htl'); have fT := hT1.free j; have ht1 := hT1.lt)
              | (go_at_call 62; refine (HR.out _).mono ?_; rintro e w' ⟨rfl, rfl⟩))
            go_roundg (cs.length + 1 - (j + 1))
            case measure => have := hk.out; omega
            case rel =>
              refine ⟨j + 1, g, cap, (lv.set j t.lv).set j (-1), ty, by go_num, by omega, ⟨?_, ((hL1.setNum j _ hll').setNum j _ (by simpa using hll')).alloc _, ((hT1.other (p := ⟨w.heap.size, j, none⟩) (Ne.symm hne1) _).other (p := ⟨w.heap.size, j, none⟩) (Ne.symm hne1) _).alloc _, ((hM1.other (p := ⟨w.heap.size, j, none⟩) (Ne.symm hne2) _).other (p := ⟨w.heap.size, j, none⟩) (Ne.symm hne2) _).alloc _, by simpa using hll, htl, ?_, ?_, fun q hq => htr q (by omega), (((hu.then hu1).setCell (p := ⟨w.heap.size, j, none⟩) (.inr (Nat.le_refl _)) _).setCell (p := ⟨w.heap.size, j, none⟩) (.inr (Nat.le_refl _)) _).alloc _, by have := hu1.size; simp; omega⟩, Nat.le_refl _⟩
              · rw [HS.out]
                exact hE1.upd (S := [w.heap.size]) ((((Upd.refl _ _).setCell (p := ⟨w.heap.size, j, none⟩) (.inl (by simp)) _).setCell (p := ⟨w.heap.size, j, none⟩) (.inl (by simp)) _).alloc _) (by simp; omega) (by simp; omega)
              · exact forall_succ (fun q hq => by rw [nth_set_ne (by omega), nth_set_ne (by omega)]; exact hlq q hq) (by rw [nth_set_self (by simpa using hll'), HL.out])
              · exact forall_succ htq (by rw [HT.out]; exact htr j (Nat.le_refl _))
        case B =>
          have HR := Lib.hid (fun w => isRem_any Cl.B w)
          simp only [Cl.e1, Cl.isRem] at HR
          have e1c : Cl.B.e1 = Cl.B.e1 := rfl
          rw [hcl] at hc
          simp only [Cl.e1] at hc
          have HL : Hid (xlv cs base j = base) := by show _ = _; simp [xlv, hcl, Cl.isRem]
          have HT : Hid (xty cs base j = cat cs j) := by show _ = _; simp [xty, hcl, Cl.isRem]
          have HS : Hid (xs cs base (j + 1) = xs cs base j) := by show xstep cs j _ = _; rw [xstep, hcl]
          have HC := Lib.hid hcl
          clear hcl e1c
          by_cases h0 : 0 ≤ o
          all_goals
            go_wp2_with (first
              | (go_at_call 61; refine (top_any b g cap t r _ c0 hrow (by omega)).mono ?_; rw [hov1]; rintro e w1 ⟨rfl, hu1⟩; have hE1 := hE.upd hu1 (by simp) (by simp); have hL1 := hL.upd hu1 (by simp); have hT1 := hT.upd hu1 (by simp); have hM1 := hM.upd hu1 (by simp); have cL := hL1.num j hll'; have fL := hL1.free j; have hs1 := hL1.lt; have cT := hT1.num j (by rw [clsI_length]; exact htl'); have fT := hT1.free j; have ht1 := hT1.lt)
              | (go_at_call 62; refine (HR.out _).mono ?_; rintro e w' ⟨rfl, rfl⟩))
            go_roundg (cs.length + 1 - (j + 1))
            case measure => have := hk.out; omega
            case rel =>
              refine ⟨j + 1, g, cap, (lv.set j t.lv).set j base, ty, by go_num, by omega, ⟨?_, ((hL1.setNum j _ hll').setNum j _ (by simpa using hll')).alloc _, ((hT1.other (p := ⟨w.heap.size, j, none⟩) (Ne.symm hne1) _).other (p := ⟨w.heap.size, j, none⟩) (Ne.symm hne1) _).alloc _, ((hM1.other (p := ⟨w.heap.size, j, none⟩) (Ne.symm hne2) _).other (p := ⟨w.heap.size, j, none⟩) (Ne.symm hne2) _).alloc _, by simpa using hll, htl, ?_, ?_, fun q hq => htr q (by omega), (((hu.then hu1).setCell (p := ⟨w.heap.size, j, none⟩) (.inr (Nat.le_refl _)) _).setCell (p := ⟨w.heap.size, j, none⟩) (.inr (Nat.le_refl _)) _).alloc _, by have := hu1.size; simp; omega⟩, Nat.le_refl _⟩
              · rw [HS.out]
                exact hE1.upd (S := [w.heap.size]) ((((Upd.refl _ _).setCell (p := ⟨w.heap.size, j, none⟩) (.inl (by simp)) _).setCell (p := ⟨w.heap.size, j, none⟩) (.inl (by simp)) _).alloc _) (by simp; omega) (by simp; omega)
              · exact forall_succ (fun q hq => by rw [nth_set_ne (by omega), nth_set_ne (by omega)]; exact hlq q hq) (by rw [nth_set_self (by simpa using hll'), HL.out])
              · exact forall_succ htq (by rw [HT.out]; exact htr j (Nat.le_refl _))
        case RLI =>
          have HR := Lib.hid (fun w => isRem_any Cl.RLI w)
          simp only [Cl.e1, Cl.isRem] at HR
          have e1c : Cl.RLI.e1 = Cl.RLI.e1 := rfl
          rw [hcl] at hc
          simp only [Cl.e1] at hc
          have HL : Hid (xlv cs base j = t.lv) := by show _ = _; simp [xlv, xtop, hcl, htop, Cl.isRem]
          have HT : Hid (xty cs base j = t.ov.getD (cat cs j)) := by show _ = _; simp [xty, xtop, hcl, htop, Cl.isRem]
          have HS : Hid (xs cs base (j + 1) = (xs cs base j).begin_ 1) := by show xstep cs j _ = _; rw [xstep, hcl]
          have hini : (cat cs j).isInit = true := by rw [hcl]; rfl
          have HC := Lib.hid hcl
          clear hcl e1c
          cases hov : t.ov with
          | none =>
            have hov1 : ov1 t.ov = -1 := by rw [hov]; rfl
            have HOV := Lib.hid hov
            clear hov
            go_wp2_with (first
              | (go_at_call 61; refine (top_any b g cap t r _ c0 hrow (by omega)).mono ?_; rw [hov1]; rintro e w1 ⟨rfl, hu1⟩; have hE1 := hE.upd hu1 (by simp) (by simp); have hL1 := hL.upd hu1 (by simp); have hT1 := hT.upd hu1 (by simp); have hM1 := hM.upd hu1 (by simp); have cL := hL1.num j hll'; have fL := hL1.free j; have hs1 := hL1.lt; have cT := hT1.num j (by rw [clsI_length]; exact htl'); have fT := hT1.free j; have ht1 := hT1.lt)
              | (go_at_call 62; refine (HR.out _).mono ?_; rintro e w' ⟨rfl, rfl⟩)
              | (go_at_call 65; refine (begin_any B b g cap (xs cs base j) base 1 _ (hE1.upd (S := [w.heap.size]) (((Upd.refl _ _).setCell (p := ⟨w.heap.size, j, none⟩) (.inl (by simp)) _).alloc _) (by simp; omega) (by simp; omega)) hok hb0 (by have := hu1.size; simp; omega) (.inr rfl) (by omega) (by omega)).mono ?_; rintro e w2 ⟨rfl, hB2⟩; obtain ⟨g2, cap2, hE2, hu2⟩ := hB2))
            go_roundg (cs.length + 1 - (j + 1))
            case measure => have := hk.out; omega
            case rel =>
              have hL2 := ((hL1.setNum j t.lv hll').alloc _).upd hu2 (by simp; omega)
              refine ⟨j + 1, g2, cap2, lv.set j t.lv, ty, by go_num, by omega, ⟨?_, hL2, ((hT1.other (p := ⟨w.heap.size, j, none⟩) (Ne.symm hne1) _).alloc _).upd hu2 (by simp; omega), ((hM1.other (p := ⟨w.heap.size, j, none⟩) (Ne.symm hne2) _).alloc _).upd hu2 (by simp; omega), by simpa using hll, htl, ?_, ?_, fun q hq => htr q (by omega), (((hu.then hu1).setCell (p := ⟨w.heap.size, j, none⟩) (.inr (Nat.le_refl _)) _).alloc _).step hu2 (fun x hx => by simp at hx; exact .inr (by omega)), by have := hu1.size; have := hu2.size; simp at *; omega⟩, Nat.le_refl _⟩
              · rw [HS.out]
                exact hE2
              · exact forall_succ (fun q hq => by rw [nth_set_ne (by omega)]; exact hlq q hq) (by rw [nth_set_self hll', HL.out])
              · exact forall_succ htq (by rw [HT.out, HOV.out]; exact htr j (Nat.le_refl _))
          | some x =>
            have hov1 : ov1 t.ov = x.e1 := by rw [hov]; rfl
            have hx0 := x.e1_range.1
            have HOV := Lib.hid hov
            clear hov
            go_wp2_with (first
              | (go_at_call 61; refine (top_any b g cap t r _ c0 hrow (by omega)).mono ?_; rw [hov1]; rintro e w1 ⟨rfl, hu1⟩; have hE1 := hE.upd hu1 (by simp) (by simp); have hL1 := hL.upd hu1 (by simp); have hT1 := hT.upd hu1 (by simp); have hM1 := hM.upd hu1 (by simp); have cL := hL1.num j hll'; have fL := hL1.free j; have hs1 := hL1.lt; have cT := hT1.num j (by rw [clsI_length]; exact htl'); have fT := hT1.free j; have ht1 := hT1.lt)
              | (go_at_call 62; refine (HR.out _).mono ?_; rintro e w' ⟨rfl, rfl⟩)
              | (go_at_call 65; refine (begin_any B b g cap (xs cs base j) base 1 _ (hE1.upd (S := [w.heap.size, gt]) ((((Upd.refl _ _).setCell (p := ⟨w.heap.size, j, none⟩) (.inl (by simp)) _).setCell (p := ⟨gt, j, none⟩) (.inl (by simp)) _).alloc _) (by simp; omega) (by simp; omega)) hok hb0 (by have := hu1.size; simp; omega) (.inr rfl) (by omega) (by omega)).mono ?_; rintro e w2 ⟨rfl, hB2⟩; obtain ⟨g2, cap2, hE2, hu2⟩ := hB2))
            go_roundg (cs.length + 1 - (j + 1))
            case measure => have := hk.out; omega
            case rel =>
              have hL2 := (((hL1.setNum j t.lv hll').other (p := ⟨gt, j, none⟩) hne1 _).alloc _).upd hu2 (by simp; omega)
              refine ⟨j + 1, g2, cap2, lv.set j t.lv, ty.set j x, by go_num, by omega, ⟨?_, hL2, (((hT1.other (p := ⟨w.heap.size, j, none⟩) (Ne.symm hne1) _).setClsI j x htl').alloc _).upd hu2 (by simp; omega), (((hM1.other (p := ⟨w.heap.size, j, none⟩) (Ne.symm hne2) _).other (p := ⟨gt, j, none⟩) (Ne.symm hne3) _).alloc _).upd hu2 (by simp; omega), by simpa using hll, by simpa using htl, ?_, ?_, fun q hq => by rw [cat_set_ne (by omega)]; exact htr q (by omega), ((((hu.then hu1).setCell (p := ⟨w.heap.size, j, none⟩) (.inr (Nat.le_refl _)) _).setCell (p := ⟨gt, j, none⟩) (.inr (by show _ ≤ gt; omega)) _).alloc _).step hu2 (fun x hx => by simp at hx; exact .inr (by omega)), by have := hu1.size; have := hu2.size; simp at *; omega⟩, Nat.le_refl _⟩
              · rw [HS.out]
                exact hE2
              · exact forall_succ (fun q hq => by rw [nth_set_ne (by omega)]; exact hlq q hq) (by rw [nth_set_self hll', HL.out])
              · exact forall_succ (fun q hq => by rw [cat_set_ne (by omega)]; exact htq q hq) (by rw [cat_set_self htl', HT.out, HOV.out]; rfl)
        case LRI =>
          have HR := Lib.hid (fun w => isRem_any Cl.LRI w)
          simp only [Cl.e1, Cl.isRem] at HR
          have e1c : Cl.LRI.e1 = Cl.LRI.e1 := rfl
          rw [hcl] at hc
          simp only [Cl.e1] at hc
          have HL : Hid (xlv cs base j = t.lv) := by show _ = _; simp [xlv, xtop, hcl, htop, Cl.isRem]
          have HT : Hid (xty cs base j = t.ov.getD (cat cs j)) := by show _ = _; simp [xty, xtop, hcl, htop, Cl.isRem]
          have HS : Hid (xs cs base (j + 1) = (xs cs base j).begin_ 0) := by show xstep cs j _ = _; rw [xstep, hcl]
          have hini : (cat cs j).isInit = true := by rw [hcl]; rfl
          have HC := Lib.hid hcl
          clear hcl e1c
          cases hov : t.ov with
          | none =>
            have hov1 : ov1 t.ov = -1 := by rw [hov]; rfl
            have HOV := Lib.hid hov
            clear hov
            go_wp2_with (first
              | (go_at_call 61; refine (top_any b g cap t r _ c0 hrow (by omega)).mono ?_; rw [hov1]; rintro e w1 ⟨rfl, hu1⟩; have hE1 := hE.upd hu1 (by simp) (by simp); have hL1 := hL.upd hu1 (by simp); have hT1 := hT.upd hu1 (by simp); have hM1 := hM.upd hu1 (by simp); have cL := hL1.num j hll'; have fL := hL1.free j; have hs1 := hL1.lt; have cT := hT1.num j (by rw [clsI_length]; exact htl'); have fT := hT1.free j; have ht1 := hT1.lt)
              | (go_at_call 62; refine (HR.out _).mono ?_; rintro e w' ⟨rfl, rfl⟩)
              | (go_at_call 65; refine (begin_any B b g cap (xs cs base j) base 0 _ (hE1.upd (S := [w.heap.size]) (((Upd.refl _ _).setCell (p := ⟨w.heap.size, j, none⟩) (.inl (by simp)) _).alloc _) (by simp; omega) (by simp; omega)) hok hb0 (by have := hu1.size; simp; omega) (.inl rfl) (by omega) (by omega)).mono ?_; rintro e w2 ⟨rfl, hB2⟩; obtain ⟨g2, cap2, hE2, hu2⟩ := hB2))
            go_roundg (cs.length + 1 - (j + 1))
            case measure => have := hk.out; omega
            case rel =>
              have hL2 := ((hL1.setNum j t.lv hll').alloc _).upd hu2 (by simp; omega)
              refine ⟨j + 1, g2, cap2, lv.set j t.lv, ty, by go_num, by omega, ⟨?_, hL2, ((hT1.other (p := ⟨w.heap.size, j, none⟩) (Ne.symm hne1) _).alloc _).upd hu2 (by simp; omega), ((hM1.other (p := ⟨w.heap.size, j, none⟩) (Ne.symm hne2) _).alloc _).upd hu2 (by simp; omega), by simpa using hll, htl, ?_, ?_, fun q hq => htr q (by omega), (((hu.then hu1).setCell (p := ⟨w.heap.size, j, none⟩) (.inr (Nat.le_refl _)) _).alloc _).step hu2 (fun x hx => by simp at hx; exact .inr (by omega)), by have := hu1.size; have := hu2.size; simp at *; omega⟩, Nat.le_refl _⟩
              · rw [HS.out]
                exact hE2
              · exact forall_succ (fun q hq => by rw [nth_set_ne (by omega)]; exact hlq q hq) (by rw [nth_set_self hll', HL.out])
              · exact forall_succ htq (by rw [HT.out, HOV.out]; exact htr j (Nat.le_refl _))
          | some x =>
            have hov1 : ov1 t.ov = x.e1 := by rw [hov]; rfl
            have hx0 := x.e1_range.1
            have HOV := Lib.hid hov
            clear hov
            go_wp2_with (first
              | (go_at_call 61; refine (top_any b g cap t r _ c0 hrow (by omega)).mono ?_; rw [hov1]; rintro e w1 ⟨rfl, hu1⟩; have hE1 := hE.upd hu1 (by simp) (by simp); have hL1 := hL.upd hu1 (by simp); have hT1 := hT.upd hu1 (by simp); have hM1 := hM.upd hu1 (by simp); have cL := hL1.num j hll'; have fL := hL1.free j; have hs1 := hL1.lt; have cT := hT1.num j (by rw [clsI_length]; exact htl'); have fT := hT1.free j; have ht1 := hT1.lt)
              | (go_at_call 62; refine (HR.out _).mono ?_; rintro e w' ⟨rfl, rfl⟩)
              | (go_at_call 65; refine (begin_any B b g cap (xs cs base j) base 0 _ (hE1.upd (S := [w.heap.size, gt]) ((((Upd.refl _ _).setCell (p := ⟨w.heap.size, j, none⟩) (.inl (by simp)) _).setCell (p := ⟨gt, j, none⟩) (.inl (by simp)) _).alloc _) (by simp; omega) (by simp; omega)) hok hb0 (by have := hu1.size; simp; omega) (.inl rfl) (by omega) (by omega)).mono ?_; rintro e w2 ⟨rfl, hB2⟩; obtain ⟨g2, cap2, hE2, hu2⟩ := hB2))
            go_roundg (cs.length + 1 - (j + 1))
            case measure => have := hk.out; omega
            case rel =>
              have hL2 := (((hL1.setNum j t.lv hll').other (p := ⟨gt, j, none⟩) hne1 _).alloc _).upd hu2 (by simp; omega)
              refine ⟨j + 1, g2, cap2, lv.set j t.lv, ty.set j x, by go_num, by omega, ⟨?_, hL2, (((hT1.other (p := ⟨w.heap.size, j, none⟩) (Ne.symm hne1) _).setClsI j x htl').alloc _).upd hu2 (by simp; omega), (((hM1.other (p := ⟨w.heap.size, j, none⟩) (Ne.symm hne2) _).other (p := ⟨gt, j, none⟩) (Ne.symm hne3) _).alloc _).upd hu2 (by simp; omega), by simpa using hll, by simpa using htl, ?_, ?_, fun q hq => by rw [cat_set_ne (by omega)]; exact htr q (by omega), ((((hu.then hu1).setCell (p := ⟨w.heap.size, j, none⟩) (.inr (Nat.le_refl _)) _).setCell (p := ⟨gt, j, none⟩) (.inr (by show _ ≤ gt; omega)) _).alloc _).step hu2 (fun x hx => by simp at hx; exact .inr (by omega)), by have := hu1.size; have := hu2.size; simp at *; omega⟩, Nat.le_refl _⟩
              · rw [HS.out]
                exact hE2
              · exact forall_succ (fun q hq => by rw [nth_set_ne (by omega)]; exact hlq q hq) (by rw [nth_set_self hll', HL.out])
              · exact forall_succ (fun q hq => by rw [cat_set_ne (by omega)]; exact htq q hq) (by rw [cat_set_self htl', HT.out, HOV.out]; rfl)
        case FSI =>
          have HR := Lib.hid (fun w => isRem_any Cl.FSI w)
          simp only [Cl.e1, Cl.isRem] at HR
          have e1c : Cl.FSI.e1 = Cl.FSI.e1 := rfl
          rw [hcl] at hc
          simp only [Cl.e1] at hc
          have HL : Hid (xlv cs base j = t.lv) := by show _ = _; simp [xlv, xtop, hcl, htop, Cl.isRem]
          have HT : Hid (xty cs base j = t.ov.getD (cat cs j)) := by show _ = _; simp [xty, xtop, hcl, htop, Cl.isRem]
          have HS : Hid (xs cs base (j + 1) = (xs cs base j).begin_ (fsLev cs (j + 1) (mOf cs j))) := by show xstep cs j _ = _; rw [xstep, hcl]
          have hini : (cat cs j).isInit = true := by rw [hcl]; rfl
          have HC := Lib.hid hcl
          clear hcl e1c
          cases hov : t.ov with
          | none =>
            have hov1 : ov1 t.ov = -1 := by rw [hov]; rfl
            have HOV := Lib.hid hov
            clear hov
            go_wp2_with (first
              | (go_at_call 61; refine (top_any b g cap t r _ c0 hrow (by omega)).mono ?_; rw [hov1]; rintro e w1 ⟨rfl, hu1⟩; have hE1 := hE.upd hu1 (by simp) (by simp); have hL1 := hL.upd hu1 (by simp); have hT1 := hT.upd hu1 (by simp); have hM1 := hM.upd hu1 (by simp); have cL := hL1.num j hll'; have fL := hL1.free j; have hs1 := hL1.lt; have cT := hT1.num j (by rw [clsI_length]; exact htl'); have fT := hT1.free j; have ht1 := hT1.lt; have cM := hM1.num j (by rw [mt_length]; exact hlt); have hm1 := hM1.lt; rw [nth_mt hlt, mAt_init hini] at cM)
              | (go_at_call 62; refine (HR.out _).mono ?_; rintro e w' ⟨rfl, rfl⟩)
              | (go_at_call 30; refine (firstStrong_any _ _ _ _ cs (j + 1) (mOf cs j) 0 _ (hr.keep (((hu.then hu1).setCell (p := ⟨w.heap.size, j, none⟩) (.inr (Nat.le_refl _)) _).alloc _)) (Rd.of_row ((hM1.other (p := ⟨w.heap.size, j, none⟩) (Ne.symm hne2) _).alloc _)) (mOf_le _ _) hm (by omega)).mono ?_; rintro e w' ⟨rfl, rfl⟩)
              | (go_at_call 65; refine (begin_any B b g cap (xs cs base j) base (fsLev cs (j + 1) (mOf cs j)) _ (hE1.upd (S := [w.heap.size]) (((Upd.refl _ _).setCell (p := ⟨w.heap.size, j, none⟩) (.inl (by simp)) _).alloc _) (by simp; omega) (by simp; omega)) hok hb0 (by have := hu1.size; simp; omega) (fsLev_range _ _ _) (by omega) (by omega)).mono ?_; rintro e w2 ⟨rfl, hB2⟩; obtain ⟨g2, cap2, hE2, hu2⟩ := hB2))
            go_roundg (cs.length + 1 - (j + 1))
            case measure => have := hk.out; omega
            case rel =>
              have hL2 := ((hL1.setNum j t.lv hll').alloc _).upd hu2 (by simp; omega)
              refine ⟨j + 1, g2, cap2, lv.set j t.lv, ty, by go_num, by omega, ⟨?_, hL2, ((hT1.other (p := ⟨w.heap.size, j, none⟩) (Ne.symm hne1) _).alloc _).upd hu2 (by simp; omega), ((hM1.other (p := ⟨w.heap.size, j, none⟩) (Ne.symm hne2) _).alloc _).upd hu2 (by simp; omega), by simpa using hll, htl, ?_, ?_, fun q hq => htr q (by omega), (((hu.then hu1).setCell (p := ⟨w.heap.size, j, none⟩) (.inr (Nat.le_refl _)) _).alloc _).step hu2 (fun x hx => by simp at hx; exact .inr (by omega)), by have := hu1.size; have := hu2.size; simp at *; omega⟩, Nat.le_refl _⟩
              · rw [HS.out]
                exact hE2
              · exact forall_succ (fun q hq => by rw [nth_set_ne (by omega)]; exact hlq q hq) (by rw [nth_set_self hll', HL.out])
              · exact forall_succ htq (by rw [HT.out, HOV.out]; exact htr j (Nat.le_refl _))
          | some x =>
            have hov1 : ov1 t.ov = x.e1 := by rw [hov]; rfl
            have hx0 := x.e1_range.1
            have HOV := Lib.hid hov
            clear hov
            go_wp2_with (first
              | (go_at_call 61; refine (top_any b g cap t r _ c0 hrow (by omega)).mono ?_; rw [hov1]; rintro e w1 ⟨rfl, hu1⟩; have hE1 := hE.upd hu1 (by simp) (by simp); have hL1 := hL.upd hu1 (by simp); have hT1 := hT.upd hu1 (by simp); have hM1 := hM.upd hu1 (by simp); have cL := hL1.num j hll'; have fL := hL1.free j; have hs1 := hL1.lt; have cT := hT1.num j (by rw [clsI_length]; exact htl'); have fT := hT1.free j; have ht1 := hT1.lt; have cM := hM1.num j (by rw [mt_length]; exact hlt); have hm1 := hM1.lt; rw [nth_mt hlt, mAt_init hini] at cM)
              | (go_at_call 62; refine (HR.out _).mono ?_; rintro e w' ⟨rfl, rfl⟩)
              | (go_at_call 30; refine (firstStrong_any _ _ _ _ cs (j + 1) (mOf cs j) 0 _ (hr.keep ((((hu.then hu1).setCell (p := ⟨w.heap.size, j, none⟩) (.inr (Nat.le_refl _)) _).setCell (p := ⟨gt, j, none⟩) (.inr (by show _ ≤ gt; omega)) _).alloc _)) (Rd.of_row (((hM1.other (p := ⟨w.heap.size, j, none⟩) (Ne.symm hne2) _).other (p := ⟨gt, j, none⟩) (Ne.symm hne3) _).alloc _)) (mOf_le _ _) hm (by omega)).mono ?_; rintro e w' ⟨rfl, rfl⟩)
              | (go_at_call 65; refine (begin_any B b g cap (xs cs base j) base (fsLev cs (j + 1) (mOf cs j)) _ (hE1.upd (S := [w.heap.size, gt]) ((((Upd.refl _ _).setCell (p := ⟨w.heap.size, j, none⟩) (.inl (by simp)) _).setCell (p := ⟨gt, j, none⟩) (.inl (by simp)) _).alloc _) (by simp; omega) (by simp; omega)) hok hb0 (by have := hu1.size; simp; omega) (fsLev_range _ _ _) (by omega) (by omega)).mono ?_; rintro e w2 ⟨rfl, hB2⟩; obtain ⟨g2, cap2, hE2, hu2⟩ := hB2))
            go_roundg (cs.length + 1 - (j + 1))
            case measure => have := hk.out; omega
            case rel =>
              have hL2 := (((hL1.setNum j t.lv hll').other (p := ⟨gt, j, none⟩) hne1 _).alloc _).upd hu2 (by simp; omega)
              refine ⟨j + 1, g2, cap2, lv.set j t.lv, ty.set j x, by go_num, by omega, ⟨?_, hL2, (((hT1.other (p := ⟨w.heap.size, j, none⟩) (Ne.symm hne1) _).setClsI j x htl').alloc _).upd hu2 (by simp; omega), (((hM1.other (p := ⟨w.heap.size, j, none⟩) (Ne.symm hne2) _).other (p := ⟨gt, j, none⟩) (Ne.symm hne3) _).alloc _).upd hu2 (by simp; omega), by simpa using hll, by simpa using htl, ?_, ?_, fun q hq => by rw [cat_set_ne (by omega)]; exact htr q (by omega), ((((hu.then hu1).setCell (p := ⟨w.heap.size, j, none⟩) (.inr (Nat.le_refl _)) _).setCell (p := ⟨gt, j, none⟩) (.inr (by show _ ≤ gt; omega)) _).alloc _).step hu2 (fun x hx => by simp at hx; exact .inr (by omega)), by have := hu1.size; have := hu2.size; simp at *; omega⟩, Nat.le_refl _⟩
              · rw [HS.out]
                exact hE2
              · exact forall_succ (fun q hq => by rw [nth_set_ne (by omega)]; exact hlq q hq) (by rw [nth_set_self hll', HL.out])
              · exact forall_succ (fun q hq => by rw [cat_set_ne (by omega)]; exact htq q hq) (by rw [cat_set_self htl', HT.out, HOV.out]; rfl)
    · obtain rfl : j = cs.length := by omega
      obtain ⟨hE, hL, hT, hM, hll, htl, hlq, htq, htr, hu, hsz⟩ := hX
      have e1 : lv = lvs cs base := ext_nth (by rw [hll, lvs_length]) (fun q hq => by rw [hll] at hq; rw [hlq q hq, nth_lvs hq])
      have e2 : ty = tys cs base := ext_cat (by rw [htl, tys_length]) (fun q hq => by rw [htl] at hq; rw [htq q hq, cat_tys hq])
      have H1 := Lib.hid e1
      have H2 := Lib.hid e2
      clear e1 e2
      go_wp2
      go_ret2
      refine ⟨_, _, _, _, rfl, Nat.le_refl _, hgt0, hne1, ?_, ?_, hu⟩
      · rw [← H1.out]; exact hL
      · rw [← H2.out]; exact hT
end Go.Proofs.YtjahmnenfknjgaaGreatDoor
