/- An append onto a slice that the call owns, of which the block is known: the same block, or a new one. -/
import Derived.Test.YtjahmnenfknjgaaGreatDoorG1
import Derived.Test.YtjahmnenfknjgaaGreatDoorG5
import Derived.Test.YtjahmnenfknjgaaGreatDoorG6
import Derived.Maps.OwnSet
import Derived.Maps.Views
import Derived.Test.YtjahmnenfknjgaaGreatDoorG2
import Derived.Test.YtjahmnenfknjgaaGreatDoorG4
set_option linter.unusedVariables false
set_option linter.unusedSimpArgs false
namespace Go.Proofs.YtjahmnenfknjgaaGreatDoor
open Go.RowKit

theorem owns_slice' {w : World} {base n size : Nat} {ty : TypeId} {v : Value} {xs : List Value} (h : w.ownsRow base ty size v n xs) (hn : 0 < n) : ∃ g c, v = .slice (some ⟨g, 0, none⟩) n c ∧ base ≤ g := by
  rcases h.2 with ⟨_, h'⟩ | ⟨g, cap, cur, h', hb, _⟩
  · omega
  · exact ⟨g, cap, h', hb⟩

theorem wpList_append_two {P : Program} (w : World) {ops : Array Oper} {rest : List Oper} {o : Oper} {a : Act} {Q : Exit → Act → World → Prop}
    (hg : o.guard = none) (s x : Operand) (t : TypeId) (hop : o.op = Op.call { callee := Callee.builtin Builtin.append, args := #[s, x], argTypes := #[t, t] })
    (base : Nat) (e : TypeId) (i : TypeInfo) (z : Value) (size bytes : Nat) (h1 : P.underlying t = some (.slice e)) (h2 : P.info? e = some i) (h3 : i.zero = some z) (h4 : i.size = size) (h5 : i.bytes = bytes) (h6 : z.cells.size = size) (h7 : 0 < size)
    (g n cap : Nat) (xs : List Value) (hs : a.eval s = .slice (some ⟨g, 0, none⟩) n cap) (hown : w.ownsRow base e size (.slice (some ⟨g, 0, none⟩) n cap) n xs)
    (ad : Addr) (m c : Nat) (news : List Value) (hx : a.eval x = .slice (some ad) m c) (hn : news.length = m * size) (hc : ∀ j u, news[j]? = some u → w.cell? (ad.add j) = some u) (h1c : ∀ u ∈ news, u.oneCell' = true)
    (b1 : n + m ≤ maxLen) (b2 : (n + m) * bytes ≤ 140737488355328) (hbase : base ≤ w.heap.size)
    (hK : ∀ g' c' w', w'.ownsRow base e size (.slice (some ⟨g', 0, none⟩) (n + m) c') (n + m) (xs ++ news) → w.grownBy w' (some g) → (g' = g ∨ w.heap.size ≤ g') → wpList P ops Q rest (a.put o.dst (.slice (some ⟨g', 0, none⟩) (n + m) c')) w') :
    wpList P ops Q (o :: rest) a w := by
  by_cases hfit : n + m ≤ cap
  · exact wpList_append_fits w hg s x t hop base e i size h1 h2 h4 g n cap xs hs hown ad m c news hx hn hc h1c hfit fun w' r1 r2 => hK g cap w' r1 r2 (.inl rfl)
  · refine wpList_append_grows w hg s x t hop e i z size bytes h1 h2 h3 h4 h5 h6 h7 (some ⟨g, 0, none⟩) n cap xs hs (fun h => by cases h) hown.1 (fun b hb => by cases hb; exact hown.cells (g := g) rfl) ad m c news hx hn hc h1c (by omega) b1 b2 fun v' w' r1 r2 => ?_
    obtain ⟨g', c', rfl, hg'⟩ := owns_slice' r1 (by omega)
    refine hK g' c' w' ⟨r1.1, ?_⟩ ⟨r2.os, r2.tape, r2.output, r2.size, fun k hk _ => r2.block k hk (by simp)⟩ (.inr hg')
    rcases r1.2 with ⟨h', h''⟩ | ⟨g2, cap2, cur2, h', hb2, rest2⟩
    · exact .inl ⟨h', h''⟩
    · exact .inr ⟨g2, cap2, cur2, h', by omega, rest2⟩
end Go.Proofs.YtjahmnenfknjgaaGreatDoor
namespace Go.Proofs.YtjahmnenfknjgaaGreatDoor
open Go.RowKit

theorem info22 : (Tryz.prog.info? 22).map (fun i => (i.zero, i.size, i.bytes)) = some (some (.slice none 0 0), 1, 24) := by kernel_rfl

theorem Rd.numS {w : World} {g o : Nat} {k : IntKind} {l : List Int} (h : Rd w (Option.some ⟨g, o, Option.none⟩) (nums k l)) (j : Nat) (hj : j < l.length) : w.cell? ⟨g, o + j, Option.none⟩ = Option.some (.int k (nth l j)) := by
  obtain ⟨g', o', e, hc⟩ := h.num j hj
  simp only [Option.some.injEq, Addr.mk.injEq] at e
  obtain ⟨rfl, rfl, _⟩ := e
  exact hc
theorem rev_at (pre r : List Nat) (s : Nat) : nat (pre ++ s :: r).reverse r.length = s := by
  simp [nat, List.getElem?_append_right, List.getElem?_append_left]
theorem rev_split (pre r : List Nat) (s : Nat) : ∃ ys, nums .i64 (nats (pre ++ s :: r).reverse) = nums .i64 (nats r.reverse) ++ ys :=
  ⟨nums .i64 (nats ([s] ++ pre.reverse)), by simp [nums, nats]⟩
theorem pst_skip {l : List Cl} {br : List Int} {j : Nat} (h : cat l j ≠ .ON ∨ nth br j = 0) : pst l br (j + 1) = pst l br j := by
  rw [pst, pstep]
  rcases h with h | h
  · rw [if_neg h]
  · split
    · rw [if_neg (by omega), if_neg (by omega)]
    · rfl
theorem pst_push {l : List Cl} {br : List Int} {j : Nat} (h : cat l j = .ON) (h' : 0 < nth br j) : pst l br (j + 1) = ⟨j :: (pst l br j).stk, (pst l br j).cl⟩ := by
  rw [pst, pstep, if_pos h, if_pos h']
theorem pst_hit {l : List Cl} {br : List Int} {j s : Nat} {r : List Nat} (h : cat l j = .ON) (h' : nth br j < 0) (hp : popTo br (- nth br j) (pst l br j).stk = some (s, r)) : pst l br (j + 1) = ⟨r, (pst l br j).cl.set s j⟩ := by
  rw [pst, pstep, if_pos h, if_neg (by omega), if_pos h', hp]
theorem pst_missS {l : List Cl} {br : List Int} {j : Nat} (h : cat l j = .ON) (h' : nth br j < 0) (hp : popTo br (- nth br j) (pst l br j).stk = none) : pst l br (j + 1) = pst l br j := by
  rw [pst, pstep, if_pos h, if_neg (by omega), if_pos h', hp]

/-- Blocks that hold pairs. -/
def PairsIn (w : World) (base : Nat) (gs : List Nat) (ps : List (Nat × Nat)) : Prop :=
  gs.length = ps.length ∧ ∀ i (h : i < gs.length) (h' : i < ps.length), base ≤ gs[i] ∧ Row w gs[i] 3 (nums .i64 (nats [ps[i].1, ps[i].2]))
theorem PairsIn.map {w w' : World} {base : Nat} {gs : List Nat} {ps : List (Nat × Nat)} (h : PairsIn w base gs ps) (f : ∀ g vs, Row w g 3 vs → Row w' g 3 vs) : PairsIn w' base gs ps :=
  ⟨h.1, fun i h1 h2 => ⟨(h.2 i h1 h2).1, f _ _ (h.2 i h1 h2).2⟩⟩
theorem PairsIn.snoc {w : World} {base g : Nat} {gs : List Nat} {ps : List (Nat × Nat)} {p : Nat × Nat} (h : PairsIn w base gs ps) (hb : base ≤ g) (hr : Row w g 3 (nums .i64 (nats [p.1, p.2]))) : PairsIn w base (gs ++ [g]) (ps ++ [p]) := by
  refine ⟨by simp [h.1], fun i h1 h2 => ?_⟩
  by_cases e : i < gs.length
  · rw [List.getElem_append_left e, List.getElem_append_left (by rw [← h.1]; exact e)]
    exact h.2 i e (by rw [← h.1]; exact e)
  · have hi : i = gs.length := by simp at h1; omega
    subst hi
    have e2 : (ps ++ [p])[gs.length]'h2 = p := by simp [h.1]
    rw [e2]
    simp only [List.getElem_concat_length]
    exact ⟨hb, hr⟩

/-- What is handed back: pairs, in rows of two. -/
def RetPairs (w : World) (ps : List (Nat × Nat)) (e : Ending) (w' : World) : Prop :=
  ∃ A c, e = .returned (.slice A ps.length c) ∧ ps.length ≤ c ∧ (∀ a, A = some a → w.heap.size ≤ a.block) ∧ TwoRows w' w.heap.size A ps ∧ Upd [] w w'

set_option maxHeartbeats 4000000 in
set_option maxRecDepth 100000 in
theorem sPairs_any (A1 A2 : Option Addr) (c1 c2 : Nat) (l : List Cl) (br : List Int) (w : World) (h1 : Rd w A1 (nums .i64 (clsI l))) (h2 : Rd w A2 (nums .i64 br)) (hl : br.length = l.length) (hv : ∀ j, j < l.length → -1114111 ≤ nth br j ∧ nth br j ≤ 1114111)
    (hop : ∀ i, i < l.length → cat l i = .ON → 0 < nth br i → (pst l br i).stk.length < 63) (hm : l.length ≤ 2147483647) :
    Calls Tryz.prog 74 #[.slice A1 l.length c1, .slice A2 l.length c2] w (RetPairs w (prs l br)) := by
  obtain ⟨i0, hi', hz0, hz1, hz2⟩ := info_parts info3
  obtain ⟨i1, hj', hy0, hy1, hy2⟩ := info_parts info22
  have HL := Lib.hid hl
  have HV := Lib.hid hv
  have HOP := Lib.hid hop
  clear hl hv hop
  have hown0 := World.ownsRow_lit (base := w.heap.size) (e := 3) (size := 1) w #[] 0 (Nat.le_refl _) (by decide) rfl
  go_enter Tryz.func74, Tryz.ntmps74
  go_wp2_with (at_make; refine wpList_make_full _ rfl _ _ 22 rfl (w.heap.size + 1) 3 i0 (.int .i64 0) 1 Tryz.underlying22 hi' hz0 hz1 _ _ _ _ l.length rfl rfl rfl rfl ?b1 ?b2 ?b3 ?_)
  case b1 => first | omega | (rw [hz2]; omega)
  case b2 => unfold maxLen; omega
  any_goals (first | (exact Nat.le_refl _) | skip)
  intro w1 hown hgrow
  rw [made_nums] at hown
  have hC := Row.of_owns hown
  have hstk : w1.ownsRow w.heap.size 3 1 (.slice (some ⟨w.heap.size, 0, none⟩) 0 0) 0 [] := hown0.kept hgrow (by simp [Value.ownBlock])
  have hu : Upd [] w w1 := ((Upd.refl _ _).alloc _).grown0 hgrow
  have hgc : w.heap.size + 1 < w1.heap.size := by have := hC.lt; simpa using this
  clear hgrow hown hown0
  go_wp2
  go_loopg [5, 19] (l.length + 1) (fun k s i wr => ∃ j g cap : Nat, i = .int .i64 j ∧ j ≤ l.length ∧ s = .slice (some ⟨g, 0, none⟩) (pst l br j).stk.length cap ∧ wr.ownsRow w.heap.size 3 1 (.slice (some ⟨g, 0, none⟩) (pst l br j).stk.length cap) (pst l br j).stk.length (nums .i64 (nats (pst l br j).stk.reverse)) ∧ g ≠ w.heap.size + 1 ∧ Row wr (w.heap.size + 1) 3 (nums .i64 (pst l br j).cl) ∧ Upd [] w wr ∧ w1.heap.size ≤ wr.heap.size ∧ Hid (l.length + 1 - j ≤ k))
  case atStart => exact ⟨0, w.heap.size, 0, rfl, by omega, rfl, hstk, by omega, hC, hu, Nat.le_refl _, Nat.le_refl _⟩
  case round =>
    clear hstk hC
    obtain ⟨j, g, cap, rfl, hj, rfl, hown, hgne, hC, hu, hsz, hk⟩ := hrel
    by_cases hlt : j < l.length
    · obtain ⟨ga, oa, rfl, hc1⟩ := (h1.keep hu).num j (by rw [clsI_length]; exact hlt)
      rw [nth_clsI hlt] at hc1
      obtain ⟨gb, ob, rfl, hc2⟩ := (h2.keep hu).num j (by rw [HL.out]; exact hlt)
      have hv0 := (HV.out j hlt).1
      have hv1 := (HV.out j hlt).2
      have b0 : ((cat l j).e1 == 10) = decide (cat l j = .ON) := Cl.e1_beq (cat l j) .ON
      have hbl : j < br.length := by rw [HL.out]; exact hlt
      by_cases hon : cat l j = .ON
      case neg =>
        rw [decide_eq_false hon] at b0
        have b1 := bne_of b0
        simp only [Bool.not_false] at b1
        have HS : Hid (pst l br (j + 1) = pst l br j) := pst_skip (.inl hon)
        clear hon
        go_wp2
        go_roundg (l.length + 1 - (j + 1))
        case measure => have := hk.out; omega
        case rel => exact ⟨j + 1, g, cap, by go_num, by omega, by rw [HS.out], by rw [HS.out]; exact hown, hgne, by rw [HS.out]; exact hC, hu, hsz, Nat.le_refl _⟩
      rw [decide_eq_true hon] at b0
      have b1 := bne_of b0
      simp only [Bool.not_true] at b1
      by_cases hz : nth br j = 0
      · have b2 : (nth br j == 0) = true := by simpa using hz
        have HS : Hid (pst l br (j + 1) = pst l br j) := pst_skip (.inr hz)
        clear hon hz
        go_wp2
        go_roundg (l.length + 1 - (j + 1))
        case measure => have := hk.out; omega
        case rel => exact ⟨j + 1, g, cap, by go_num, by omega, by rw [HS.out], by rw [HS.out]; exact hown, hgne, by rw [HS.out]; exact hC, hu, hsz, Nat.le_refl _⟩
      have b2 : (nth br j == 0) = false := by simpa using hz
      by_cases hp : 0 < nth br j
      · have h63 := HOP.out j hlt hon hp
        have b3 : (((pst l br j).stk.length : Int) == 63) = false := by simp; omega
        have HS : Hid (pst l br (j + 1) = ⟨j :: (pst l br j).stk, (pst l br j).cl⟩) := pst_push hon hp
        have hgw := hown.lt g rfl
        have HON := Lib.hid hon
        clear hon hz
        generalize (pst l br j).stk = stk at *
        generalize (pst l br j).cl = cl at *
        go_wp2_with (at_builtin; go_must (refine wpList_append_two _ rfl (.tmp 41) (.tmp 43) 22 rfl w.heap.size 3 i0 (.int .i64 0) 1 8 Tryz.underlying22 hi' hz0 hz1 hz2 rfl (by decide) g stk.length cap _ rfl (hown.alloc _) ⟨wr.heap.size, 0, none⟩ 1 1 [.int .i64 j] rfl rfl (one_at _ _ rfl _ _) (one_int _ _) (by unfold maxLen; omega) (by omega) (by have := hu.size; simp; omega) ?_); intro g' c' w2 hown2 hgrow2 hg2)
        have hg3 : g' ≠ w.heap.size + 1 := by rcases hg2 with h | h; rw [h]; exact hgne; simp at h; omega
        have hu2 := (hu.alloc (.cells #[.int .i64 j] 3)).grown hgrow2 (fun k e => by cases e; exact .inr hgw.1)
        have hC2 := (hC.alloc (.cells #[.int .i64 j] 3)).grown hgrow2 (by intro e; exact hgne (Option.some.inj e).symm)
        have hsz2 : w1.heap.size ≤ w2.heap.size := by have := hgrow2.size; simp at this; omega
        rw [show nums .i64 (nats stk.reverse) ++ [Value.int .i64 j] = nums .i64 (nats (j :: stk).reverse) by simp [nums, nats]] at hown2
        clear hgrow2 hg2
        go_roundg (l.length + 1 - (j + 1))
        case measure => have := hk.out; omega
        case rel => exact ⟨j + 1, g', c', by go_num, by omega, by rw [HS.out]; rfl, by rw [HS.out]; exact hown2, hg3, by rw [HS.out]; exact hC2, hu2, hsz2, Nat.le_refl _⟩
      have hneg : nth br j < 0 := by omega
      have hcap := owns_cap hown
      have hsl := fun s hs => pst_lt l br j s hs
      have hcl := pst_cl l br j
      have HIT : Hid (∀ s r, popTo br (- nth br j) (pst l br j).stk = some (s, r) → pst l br (j + 1) = ⟨r, (pst l br j).cl.set s j⟩) := fun s r h => pst_hit hon hneg h
      have MISS : Hid (popTo br (- nth br j) (pst l br j).stk = none → pst l br (j + 1) = pst l br j) := fun h => pst_missS hon hneg h
      have hstl : (pst l br j).stk.length ≤ j := pst_len l br j
      have HSL := Lib.hid hsl
      have HCL := Lib.hid hcl
      clear hon hz hsl hcl
      generalize hst0 : (pst l br j).stk = stk at *
      generalize hcl0 : (pst l br j).cl = cl at *
      have HST0 := Lib.hid hst0
      have HCL0 := Lib.hid hcl0
      clear hst0 hcl0
      go_wp2
      go_loopg [5, 9] (stk.length + 1) (fun k sv i wr2 => ∃ pre rest : List Nat, sv = .slice (some ⟨g, 0, none⟩) stk.length cap ∧ i = .int .i64 ((rest.length : Int) - 1) ∧ Hid (stk = pre ++ rest) ∧ rest.length ≤ stk.length ∧ Hid (popTo br (- nth br j) stk = popTo br (- nth br j) rest) ∧ Upd [] wr wr2 ∧ Hid (rest.length + 1 ≤ k))
      case atStart => exact ⟨[], stk, rfl, by go_num, rfl, Nat.le_refl _, rfl, Upd.refl _ _, Nat.le_refl _⟩
      case round =>
        obtain ⟨pre, rest, rfl, rfl, HPR, hrl, HPO, hu2, hk2⟩ := hrel
        have hown2 := own_upd hown hu2 (by simp)
        have hC2 := hC.upd hu2 (by simp)
        have hsz2 := hu2.size
        match rest, HPR, hrl, HPO, hk2 with
        | [], HPR, hrl, HPO, hk2 =>
          have HS : Hid (pst l br (j + 1) = pst l br j) := MISS.out (by rw [HPO.out]; rfl)
          go_wp2
          go_roundg (l.length + 1 - (j + 1))
          case measure => have := hk.out; omega
          case rel => exact ⟨j + 1, g, cap, by go_num, by omega, by rw [HS.out, HST0.out], by rw [HS.out, HST0.out]; exact hown2, hgne, by rw [HS.out, HCL0.out]; exact hC2, hu.then hu2, by omega, Nat.le_refl _⟩
        | s :: r, HPR, hrl, HPO, hk2 =>
          simp only [List.length_cons] at *
          rw [show ((r.length + 1 : Nat) : Int) - 1 = r.length by omega]
          have hsm : s ∈ stk := by rw [HPR.out]; simp
          have hsj := HSL.out s hsm
          have hrow := Row.of_owns hown2
          have hcs := hrow.num r.length (by rw [nats_length, List.length_reverse]; omega)
          rw [nth_nats (by rw [List.length_reverse]; omega), HPR.out, rev_at] at hcs
          have hbs : s < br.length := by rw [HL.out]; omega
          have hcb := (h2.keep (hu.then hu2)).numS s hbs
          have hcj := (h2.keep (hu.then hu2)).numS j hbl
          have hlen0 : r.length + 1 ≤ stk.length := hrl
          by_cases hv : nth br s = - nth br j
          · have b4 : (nth br s == - nth br j) = true := by simpa using hv
            have HS : Hid (pst l br (j + 1) = ⟨r, cl.set s j⟩) := by
              have := HIT.out s r (by rw [HPO.out, popTo_hit hv])
              exact this
            have hscl : s < cl.length := by rw [HCL.out]; omega
            have hcc := hC2.num s hscl
            have hcf := hC2.free s
            have hC3 := hC2.setNum s j hscl
            have hown3 := ownsRow_setCell_other hown2 (a := ⟨w.heap.size + 1, s, none⟩) (by simp [Value.ownBlock]; omega) (.int .i64 j)
            obtain ⟨ys, hys⟩ := rev_split pre r s
            rw [HPR.out, hys, ← HPR.out] at hown3
            have hown4 := own_prefix (m := r.length) hown3 (by rw [nums_length, nats_length, List.length_reverse, Nat.mul_one]) (by omega)
            have hu3 := (hu.then hu2).setCell (p := ⟨w.heap.size + 1, s, none⟩) (.inr (by show _ ≤ w.heap.size + 1; omega)) (.int .i64 j)
            clear hv hys hown3 hC2 hown2 hrow
            go_wp2
            go_region
            all_goals (try go_wp2)
            all_goals
              go_roundg (l.length + 1 - (j + 1))
              case measure => have := hk.out; omega
              case rel => exact ⟨j + 1, g, cap, by go_num, by omega, by rw [HS.out], by rw [HS.out]; exact hown4.drew, hgne, by rw [HS.out]; exact hC3.drew, hu3.drew, by simp; omega, Nat.le_refl _⟩
          · have b4 : (nth br s == - nth br j) = false := by simpa using hv
            have HPR2 : Hid (stk = (pre ++ [s]) ++ r) := by show _ = _; rw [HPR.out]; simp
            have HPO2 : Hid (popTo br (- nth br j) stk = popTo br (- nth br j) r) := by show _ = _; rw [HPO.out, popTo_skip hv]
            clear hv hown2 hC2 hrow
            go_wp2
            go_region
            all_goals (try go_wp2)
            all_goals
              go_roundg (r.length + 1)
              case measure => have := hk2.out; omega
              case rel => exact ⟨pre ++ [s], r, rfl, by go_num, HPR2, by omega, HPO2, hu2.drew, Nat.le_refl _⟩
    · obtain rfl : j = l.length := by omega
      have hpl := pst_cl l br l.length
      have HFIN : Hid (prs l br = prsK (pst l br l.length).cl l.length) := rfl
      have hpv := fun q => pst_val l br l.length q
      generalize (pst l br l.length).cl = cl at *
      have HPV := Lib.hid hpv
      have HPL := Lib.hid hpl
      have hcll : cl.length ≤ 2147483647 := by omega
      have hle1 : cl.length ≤ l.length := by omega
      have hle2 : l.length ≤ cl.length := by omega
      clear hpv hpl hown
      go_wp2
      obtain ⟨wo, rfl⟩ : ∃ wo : World, wo = wr := ⟨_, rfl⟩
      have hown0 := World.ownsRow_lit (base := wo.heap.size) (e := 22) (size := 1) wo #[] 0 (Nat.le_refl _) (by decide) rfl
      have hC1 := hC.alloc (.cells #[] 22)
      have hu1 := hu.alloc (.cells #[] 22)
      have hszr := hu.size
      go_loopg [10, 79] (cl.length + 1) (fun k s i wr => ∃ (j g cap : Nat) (gs : List Nat), i = .int .i64 j ∧ j ≤ cl.length ∧ s = .slice (some ⟨g, 0, none⟩) gs.length cap ∧ wr.ownsRow wo.heap.size 22 1 (.slice (some ⟨g, 0, none⟩) gs.length cap) gs.length (gs.map fun x => hdr x 2 2) ∧ PairsIn wr w.heap.size gs (prsK cl j) ∧ Row wr (w.heap.size + 1) 3 (nums .i64 cl) ∧ Upd [] w wr ∧ wo.heap.size ≤ wr.heap.size ∧ Hid (cl.length + 1 - j ≤ k))
      case atStart => exact ⟨0, wo.heap.size, 0, [], rfl, by omega, rfl, hown0, ⟨rfl, fun i h => by simp at h⟩, hC1, hu1, by simp, Nat.le_refl _⟩
      case round =>
        obtain ⟨j, g, cap, gs, rfl, hj, rfl, hown, hP, hC, hu, hsz, hk⟩ := hrel
        by_cases hlt : j < cl.length
        · have hc := hC.num j hlt
          by_cases hpos : 0 < nth cl j
          · obtain ⟨cc, hcc⟩ : ∃ cc : Nat, nth cl j = cc := by rcases HPV.out j with h | ⟨cc, h, _⟩; omega; exact ⟨cc, h⟩
            have HK := Lib.hid (prsK_yes hpos)
            have hgw := hown.lt g rfl
            have hgl : gs.length ≤ j := by rw [hP.1]; exact prsK_le cl j
            have HCC := Lib.hid hcc
            have hnum : nums .i64 (nats [j, cc]) = [.int .i64 j, .int .i64 (nth cl j)] := by rw [hcc]; rfl
            have hnew := (Row.new wr 3 [.int .i64 j, .int .i64 (nth cl j)]).alloc (.cells #[hdr wr.heap.size 2 2] 22)
            clear hcc
            go_wp2_with (at_builtin; go_must (refine wpList_append_own _ rfl (.tmp 86) (.tmp 90) 98 rfl wo.heap.size 22 i1 (.slice none 0 0) 1 24 Tryz.underlying98 hj' hy0 hy1 hy2 rfl (by decide) _ gs.length _ rfl ((hown.alloc _).alloc _) ⟨wr.heap.size + 1, 0, none⟩ 1 1 [hdr wr.heap.size 2 2] rfl rfl (one_at _ _ (by simp) _ _) (by intro u hu; simp at hu; subst hu; rfl) (by unfold maxLen; omega) (by omega) (by simp; omega) ?_); intro v' w3 hown2 hgrow2 _)
            obtain ⟨g', c', rfl, hg'⟩ := owns_slice hown2 (by omega)
            have hu2 := ((hu.alloc (.cells #[.int .i64 j, .int .i64 (nth cl j)] 3)).alloc (.cells #[hdr wr.heap.size 2 2] 22)).grown hgrow2 (fun k e => by cases e; exact .inr (by show _ ≤ g; omega))
            have keepR : ∀ x vs, Row wr x 3 vs → Row w3 x 3 vs := fun x vs h => ((h.alloc _).alloc _).grown hgrow2 (by intro e; have := Option.some.inj e; subst this; exact absurd rfl (h.ne_type (Row.of_owns hown) (by decide)))
            have hnew3 : Row w3 wr.heap.size 3 (nums .i64 (nats [j, cc])) := by rw [hnum]; exact hnew.grown hgrow2 (by intro e; have := Option.some.inj e; simp only [] at this; omega)
            have hP2 := (hP.map keepR).snoc (p := (j, cc)) (by have := hu.size; exact this) hnew3
            have hC2 := keepR _ _ hC
            have hsz2 : wo.heap.size ≤ w3.heap.size := by have := hgrow2.size; simp at this; omega
            have hPF : PairsIn w3 w.heap.size (gs ++ [wr.heap.size]) (prsK cl (j + 1)) := by rw [HK.out, HCC.out]; simpa using hP2
            rw [show (gs.map fun x => hdr x 2 2) ++ [hdr wr.heap.size 2 2] = ((gs ++ [wr.heap.size]).map fun x => hdr x 2 2) by simp] at hown2
            have hln : gs.length + 1 = (gs ++ [wr.heap.size]).length := by simp
            rw [hln] at hown2
            clear hgrow2 hP2 hnew3 keepR hnew hnum hln
            go_roundg (cl.length + 1 - (j + 1))
            case measure => have := hk.out; omega
            case rel => exact ⟨j + 1, g', c', gs ++ [wr.heap.size], by go_num, by omega, by simp, hown2, hPF, hC2, hu2, hsz2, Nat.le_refl _⟩
          · have HK := Lib.hid (prsK_no hpos)
            go_wp2
            go_roundg (cl.length + 1 - (j + 1))
            case measure => have := hk.out; omega
            case rel => exact ⟨j + 1, g, cap, gs, by go_num, by omega, rfl, hown, by rw [HK.out]; exact hP, hC, hu, hsz, Nat.le_refl _⟩
        · obtain rfl : j = cl.length := by omega
          have hcap := owns_cap hown
          have hgw := (hown.lt g rfl).1
          have hRd := Rd.of_row (Row.of_owns hown)
          have hfin : prs l br = prsK cl cl.length := by rw [HFIN.out, HPL.out]
          have hlen := hP.1
          have R : Hid (∃ A c, Ending.returned (.slice (some ⟨g, 0, none⟩) gs.length cap) = .returned (.slice A (prs l br).length c) ∧ (prs l br).length ≤ c ∧ (∀ a, A = some a → w.heap.size ≤ a.block) ∧ TwoRows wr w.heap.size A (prs l br)) := by
            rw [hfin, ← hlen]
            exact ⟨_, _, rfl, hcap, (fun a e => by cases e; show _ ≤ g; omega), gs, hlen, hRd, hP.2⟩
          clear hfin hlen hRd
          go_wp2
          go_ret
          obtain ⟨A, c, e, h3, h4, h5⟩ := R.out
          exact ⟨A, c, e, h3, h4, h5, hu⟩
end Go.Proofs.YtjahmnenfknjgaaGreatDoor
namespace Go.Proofs.YtjahmnenfknjgaaGreatDoor
open Go.RowKit

/-- An inner slice: its block, its capacity, its numbers. -/
structure Rn where
  g : Nat
  cap : Nat
  r : List Nat
def Rn.hd (x : Rn) : Value := .slice (some ⟨x.g, 0, none⟩) x.r.length x.cap
def Rn.Own (w : World) (B : Nat) (x : Rn) : Prop := w.ownsRow B 3 1 (.slice (some ⟨x.g, 0, none⟩) x.r.length x.cap) x.r.length (nums .i64 (nats x.r))
theorem Rn.Own.lt {w : World} {B : Nat} {x : Rn} (h : x.Own w B) : B ≤ x.g ∧ x.g < w.heap.size := World.ownsRow.lt h x.g rfl
theorem Rn.Own.row {w : World} {B : Nat} {x : Rn} (h : x.Own w B) : Row w x.g 3 (nums .i64 (nats x.r)) := Row.of_owns h
/-- The inner slices: each owned, in blocks of their own. -/
structure RunsIn (w : World) (B : Nat) (L : List Rn) : Prop where
  own : ∀ x, x ∈ L → x.Own w B
  nd : ∀ i j (hi : i < L.length) (hj : j < L.length), i ≠ j → L[i].g ≠ L[j].g
theorem RunsIn.nil (w : World) (B : Nat) : RunsIn w B [] := ⟨by simp, fun i j hi => by simp at hi⟩
theorem RunsIn.upd {S : List Nat} {w w' : World} {B : Nat} {L : List Rn} (h : RunsIn w B L) (hu : Upd S w w') (hn : ∀ x, x ∈ L → x.g ∉ S) : RunsIn w' B L :=
  ⟨fun x hx => own_upd (h.own x hx) hu (fun k e => by cases e; exact hn x hx), h.nd⟩
theorem RunsIn.keep {w w' : World} {B : Nat} {L : List Rn} (h : RunsIn w B L) (hu : Upd [] w w') : RunsIn w' B L := h.upd hu (by simp)
theorem RunsIn.alloc {w : World} {B : Nat} {L : List Rn} (h : RunsIn w B L) (o : Obj) : RunsIn (w.alloc o) B L := h.keep ((Upd.refl _ _).alloc o)
theorem RunsIn.grown {w w' : World} {B : Nat} {L : List Rn} (h : RunsIn w B L) {row : Option Nat} (hg : w.grownBy w' row) (hn : ∀ x, x ∈ L → some x.g ≠ row) : RunsIn w' B L :=
  ⟨fun x hx => World.ownsRow.kept (h.own x hx) hg (.inr (hn x hx)), h.nd⟩
theorem RunsIn.other {w : World} {B : Nat} {L : List Rn} (h : RunsIn w B L) {p : Addr} (hn : ∀ x, x ∈ L → x.g ≠ p.block) (u : Value) : RunsIn (w.setCell p u) B L :=
  ⟨fun x hx => ownsRow_setCell_other (h.own x hx) (fun e => hn x hx (Option.some.inj e)) u, h.nd⟩
theorem RunsIn.ne_row {w : World} {B g : Nat} {L : List Rn} {ty : TypeId} {vs : List Value} (h : RunsIn w B L) (hr : Row w g ty vs) (ht : ty ≠ 3) : ∀ x, x ∈ L → x.g ≠ g := fun x hx => (h.own x hx).row.ne_type hr (fun e => ht e.symm)
theorem RunsIn.lt {w : World} {B : Nat} {L : List Rn} (h : RunsIn w B L) : ∀ x, x ∈ L → x.g < w.heap.size := fun x hx => (h.own x hx).lt.2
theorem RunsIn.snoc {w : World} {B : Nat} {L : List Rn} (h : RunsIn w B L) {x : Rn} (hx : x.Own w B) (hn : ∀ y, y ∈ L → y.g ≠ x.g) : RunsIn w B (L ++ [x]) :=
  ⟨fun y hy => by rcases List.mem_append.1 hy with h1 | h1; exact h.own y h1; simp at h1; subst h1; exact hx, fun i j hi hj hij => by
    simp only [List.length_append, List.length_singleton] at hi hj
    by_cases ei : i < L.length <;> by_cases ej : j < L.length
    · rw [List.getElem_append_left ei, List.getElem_append_left ej]; exact h.nd i j ei ej hij
    · obtain rfl : j = L.length := by omega
      rw [List.getElem_append_left ei, List.getElem_concat_length]
      · exact hn _ (List.getElem_mem ei)
      · rfl
    · obtain rfl : i = L.length := by omega
      rw [List.getElem_append_left ej, List.getElem_concat_length]
      · exact (hn _ (List.getElem_mem ej)).symm
      · rfl
    · omega⟩
/-- One inner slice is appended to. -/
theorem RunsIn.grow1 {w w' : World} {B k g' c' : Nat} {L : List Rn} {more : List Nat} (h : RunsIn w B L) (hk : k < L.length)
    (hown : w'.ownsRow B 3 1 (.slice (some ⟨g', 0, none⟩) (L[k].r ++ more).length c') (L[k].r ++ more).length (nums .i64 (nats (L[k].r ++ more)))) (hg : w.grownBy w' (some L[k].g)) (hf : g' = L[k].g ∨ w.heap.size ≤ g') :
    RunsIn w' B (L.set k ⟨g', c', L[k].r ++ more⟩) := by
  refine ⟨fun x hx => ?_, fun i j hi hj hij => ?_⟩
  · obtain ⟨i, hi, rfl⟩ := List.getElem_of_mem hx
    simp only [List.length_set] at hi
    by_cases e : i = k
    · subst e; rw [List.getElem_set_self]; exact hown
    · rw [List.getElem_set_ne (fun h => e h.symm)]
      exact World.ownsRow.kept (h.own _ (List.getElem_mem hi)) hg (.inr (fun e' => h.nd i k hi hk e (Option.some.inj e')))
  · have hi' : i < L.length := by simpa using hi
    have hj' : j < L.length := by simpa using hj
    by_cases ei : i = k
    · subst ei
      rw [List.getElem_set_self, List.getElem_set_ne hij]
      rcases hf with hf | hf
      · intro e; exact h.nd i j hi' hj' hij (hf.symm.trans e)
      · intro e; have := h.lt _ (List.getElem_mem hj'); simp only [] at e; omega
    · by_cases ej : j = k
      · subst ej
        rw [List.getElem_set_self, List.getElem_set_ne (fun h => hij h.symm)]
        rcases hf with hf | hf
        · intro e; exact h.nd i j hi' hj' hij (e.trans hf)
        · intro e; have := h.lt _ (List.getElem_mem hi'); simp only [] at e; omega
      · rw [List.getElem_set_ne (fun h => ei h.symm), List.getElem_set_ne (fun h => ej h.symm)]
        exact h.nd i j hi' hj' hij
end Go.Proofs.YtjahmnenfknjgaaGreatDoor
namespace Go.Proofs.YtjahmnenfknjgaaGreatDoor
open Go.RowKit

/-- Runs handed back: a slice of slices, each in a block of its own, from base on. -/
def RetRuns (w : World) (rs : List (List Nat)) (e : Ending) (w' : World) : Prop :=
  ∃ (g cap : Nat) (L : List Rn), e = .returned (.slice (some ⟨g, 0, none⟩) L.length cap) ∧ L.map Rn.r = rs ∧ w'.ownsRow w.heap.size 22 1 (.slice (some ⟨g, 0, none⟩) L.length cap) L.length (L.map Rn.hd) ∧ RunsIn w' w.heap.size L ∧ Upd [] w w'

theorem set_end {α : Type} {L : List α} {x y : α} {n : Nat} (h : n = L.length) : (L ++ [x]).set n y = L ++ [y] := by subst h; simp
theorem hd_set (L : List Rn) (k : Nat) (x : Rn) : (L.map Rn.hd).set k x.hd = (L.set k x).map Rn.hd := by rw [List.map_set]
theorem lat_map {L : List Rn} {k : Nat} (h : k < L.length) : lat (L.map Rn.r) k = L[k].r := by simp [lat, h]

/-- After the header of a new empty run is appended: the new run is owned, the old ones stand, and it lies apart. -/
theorem RunsIn.snoc2 {B : Nat} {wr : World} {L : List Rn} (hL : RunsIn wr B L) (g g' : Nat) (w2 : World) (hv : Value) (ty : TypeId) (hB : B ≤ wr.heap.size)
    (hgrow : ((wr.alloc (.cells #[] 3)).alloc (.cells #[hv] ty)).grownBy w2 (some g)) (hg : g' = g ∨ ((wr.alloc (.cells #[] 3)).alloc (.cells #[hv] ty)).heap.size ≤ g') (hne : ∀ x, x ∈ L → x.g ≠ g) (hlt : g < wr.heap.size) :
    w2.ownsRow B 3 1 (.slice (some ⟨wr.heap.size, 0, none⟩) 0 0) 0 [] ∧ RunsIn w2 B L ∧ wr.heap.size ≠ g' ∧ ∀ x, x ∈ L → x.g ≠ g' := by
  have h0 := World.ownsRow_lit (base := B) (e := 3) (size := 1) wr #[] 0 hB (by decide) rfl
  simp only [World.size_alloc] at hg
  refine ⟨World.ownsRow.kept (World.ownsRow.alloc h0 _) hgrow (.inr (fun e => ?_)), ((hL.alloc _).alloc _).grown hgrow (fun x hx e => hne x hx (Option.some.inj e)), ?_, fun x hx => ?_⟩
  · have h9 : wr.heap.size = g := Option.some.inj e; omega
  · omega
  · have := hL.lt x hx; have := hne x hx; omega

set_option maxHeartbeats 4000000 in
set_option maxRecDepth 100000 in
theorem sRuns_any (A : Option Addr) (c : Nat) (lv : List Int) (w : World) (hr : Rd w A (nums .i64 lv)) (hm : lv.length ≤ 2147483647) :
    Calls Tryz.prog 93 #[.slice A lv.length c] w (RetRuns w (runs lv)) := by
  obtain ⟨i0, hi', hz0, hz1, hz2⟩ := info_parts info3
  obtain ⟨i1, hj', hy0, hy1, hy2⟩ := info_parts info22
  have hown0 := World.ownsRow_lit (base := w.heap.size) (e := 22) (size := 1) w #[] 0 (Nat.le_refl _) (by decide) rfl
  go_enter Tryz.func93, Tryz.ntmps93
  go_wp2
  go_loopg [3, 4, 10] (lv.length + 1) (fun k s ls i wr => ∃ (j g cap : Nat) (L : List Rn) (last : Int), i = .int .i64 j ∧ j ≤ lv.length ∧ s = .slice (some ⟨g, 0, none⟩) L.length cap ∧ ls = .int .i64 last ∧ wr.ownsRow w.heap.size 22 1 (.slice (some ⟨g, 0, none⟩) L.length cap) L.length (L.map Rn.hd) ∧ RunsIn wr w.heap.size L ∧ Hid (rst lv j = (L.map Rn.r, last)) ∧ Upd [] w wr ∧ Hid (lv.length + 1 - j ≤ k))
  case atStart => exact ⟨0, w.heap.size, 0, [], -1, rfl, by omega, rfl, rfl, hown0, RunsIn.nil _ _, rfl, (Upd.refl _ _).alloc _, Nat.le_refl _⟩
  case round =>
    obtain ⟨j, g, cap, L, last, rfl, hj, rfl, rfl, hown, hL, HR, hu, hk⟩ := hrel
    by_cases hlt : j < lv.length
    · obtain ⟨ga, oa, rfl, hc⟩ := (hr.keep hu).num j hlt
      have hgw := hown.lt g rfl
      have hLlen : L.length ≤ j := by have := rst_len lv j; rw [HR.out] at this; simpa using this
      have hgne := hL.ne_row (Row.of_owns hown) (by decide)
      have hsz := hu.size
      by_cases h1 : nth lv j = -1
      · have b1 : (nth lv j == -1) = true := by simpa using h1
        have HS : Hid (rst lv (j + 1) = (L.map Rn.r, last)) := (rst_skip h1).trans HR.out
        clear h1
        go_wp2
        go_roundg (lv.length + 1 - (j + 1))
        case measure => have := hk.out; omega
        case rel => exact ⟨j + 1, g, cap, L, last, by go_num, by omega, rfl, rfl, hown, hL, HS, hu, Nat.le_refl _⟩
      have b1 : (nth lv j == -1) = false := by simpa using h1
      by_cases h2 : nth lv j = last
      · have b2 : (nth lv j != last) = false := by simpa using h2
        have hpos : 0 < L.length := by
          have := rst_ne lv j (by rw [HR.out]; simp only; rw [← h2]; exact h1)
          rw [HR.out] at this; simpa using this
        obtain ⟨n, hn⟩ : ∃ n, L.length = n + 1 := ⟨L.length - 1, by omega⟩
        have hnl : n < L.length := by omega
        have HS : Hid (rst lv (j + 1) = ((L.set n ⟨0, 0, L[n].r ++ [j]⟩).map Rn.r, last)) := by
          show _ = _
          rw [rst_same h1 (by rw [HR.out]; exact h2), HR.out]
          simp only [List.length_map, hn, Nat.add_sub_cancel, List.map_set]
          rw [lat_map hnl]
        have hx := hL.own _ (List.getElem_mem hnl)
        have hrl : L[n].r.length ≤ j := by
          have := (rst_mem lv j L[n].r (by rw [HR.out]; exact List.mem_map.2 ⟨_, List.getElem_mem hnl, rfl⟩)).2.1
          exact this
        have hcell : wr.cell? ⟨g, n, none⟩ = some (.slice (some ⟨L[n].g, 0, none⟩) L[n].r.length L[n].cap) := by
          have := (Row.of_owns hown).cell n (by simpa using hnl)
          rw [this, List.getElem_map]; rfl
        have hxo : wr.ownsRow w.heap.size 3 1 (.slice (some ⟨L[n].g, 0, none⟩) L[n].r.length L[n].cap) L[n].r.length (nums .i64 (nats L[n].r)) := hx
        have hxg := hx.lt
        have hgn : L[n].g ≠ g := hgne _ (List.getElem_mem hnl)
        have GROW := Lib.hid (fun g' c' w3 h1 h2 h3 => (hL.alloc (.cells #[.int .i64 j] 3)).grow1 (w' := w3) (g' := g') (c' := c') (more := [j]) hnl h1 h2 h3)
        have HN := Lib.hid hn
        have hn1 : L.length ≤ n + 1 := by omega
        have hn2 : n + 1 ≤ L.length := by omega
        have hLN : (L.length : Int) - 1 = n := by omega
        have HXR : Hid (∃ r, r = L[n].r) := ⟨_, rfl⟩
        generalize hxr : L[n].r = r at *
        generalize hxg' : L[n].g = xg at *
        generalize hxc : L[n].cap = xc at *
        clear h1 h2 hn hx hpos hxr hxg' hxc
        rw [HN.out] at hown ⊢
        go_wp2_with (at_builtin; go_must (refine wpList_append_two _ rfl (.tmp 34) (.tmp 36) 22 rfl w.heap.size 3 i0 (.int .i64 0) 1 8 Tryz.underlying22 hi' hz0 hz1 hz2 rfl (by decide) xg r.length xc _ rfl (hxo.alloc _) ⟨wr.heap.size, 0, none⟩ 1 1 [.int .i64 j] rfl rfl (one_at _ _ rfl _ _) (one_int _ _) (by unfold maxLen; omega) (by omega) (by simp; omega) ?_); intro g' c' w2 hown2 hgrow2 hg2; have hc2 : w2.cell? ⟨g, n, none⟩ = some (.slice (some ⟨xg, 0, none⟩) r.length xc) := hgrow2.cell (by rw [World.cell?_alloc_lt]; exact hcell; exact hgw.2) (by intro e; exact hgn (Option.some.inj e).symm); have hf2 : w2.frozen? ⟨g, n, none⟩ = false := (((Row.of_owns hown).alloc _).grown hgrow2 (by intro e; exact hgn (Option.some.inj e).symm)).free n)
        go_roundg (lv.length + 1 - (j + 1))
        case measure => have := hk.out; omega
        case rel =>
          have HR2 := GROW.out g' c' w2 (by simpa [nats, nums] using hown2) (by simpa using hgrow2) hg2
          have hgg : g' ≠ g := by
            rcases hg2 with h | h
            · rw [h]; exact hgn
            · intro e; subst e; simp at h; omega
          have hown3 : w2.ownsRow w.heap.size 22 1 (.slice (some ⟨g, 0, none⟩) (n + 1) cap) (n + 1) (L.map Rn.hd) := World.ownsRow.kept (World.ownsRow.alloc hown _) hgrow2 (.inr (by intro e; exact hgn (Option.some.inj e).symm))
          have hu2 : Upd [] w w2 := (hu.alloc _).grown hgrow2 (fun k e => .inr (by cases e; exact hxg.1))
          refine ⟨j + 1, g, cap, L.set n ⟨g', c', r ++ [j]⟩, last, by go_num, by omega, ?_, rfl, ?_, ?_, ?_, ?_, Nat.le_refl _⟩
          · rw [List.length_set, HN.out]
          · rw [List.length_set, HN.out, ← hd_set]
            have hq := (hown3.stored n (Rn.hd ⟨g', c', r ++ [j]⟩)).1
            rw [show Rn.hd ⟨g', c', r ++ [j]⟩ = .slice (some ⟨g', 0, none⟩) (r.length + 1) c' from by simp [Rn.hd]] at hq ⊢
            exact hq
          · refine RunsIn.other HR2 (p := ⟨g, n, none⟩) (fun x hx => ?_) _
            rcases List.mem_or_eq_of_mem_set hx with hx | rfl
            · exact hgne x hx
            · exact hgg
          · show _ = _
            rw [HS.out]; simp only [List.map_set]
          · exact hu2.setCell (p := ⟨g, n, none⟩) (.inr hgw.1) _
      · have b2 : (nth lv j != last) = true := by simpa using h2
        have HS : Hid (rst lv (j + 1) = ((L ++ [Rn.mk 0 0 [j]]).map Rn.r, nth lv j)) := by
          show _ = _
          rw [rst_new h1 (by rw [HR.out]; exact h2), HR.out]
          simp
        generalize hV : nth lv j = v at *
        clear h1 h2 hV
        have HB := RunsIn.snoc2 hL
        go_wp2_with (at_builtin; first
          | (refine wpList_append_two _ rfl (.tmp 20) (.tmp 22) 98 rfl w.heap.size 22 i1 (.slice none 0 0) 1 24 Tryz.underlying98 hj' hy0 hy1 hy2 rfl (by decide) g L.length cap _ rfl ((hown.alloc _).alloc _) ⟨wr.heap.size + 1, 0, none⟩ 1 1 [.slice (some ⟨wr.heap.size, 0, none⟩) 0 0] rfl rfl (one_at _ (wr.heap.size + 1) (by simp) _ _) (by simp [Value.oneCell']) (by unfold maxLen; omega) (by omega) (by simp; omega) ?_
             intro g' c' w2 hown2 hgrow2 hg2
             have hL2 := HB g g' w2 (.slice (some ⟨wr.heap.size, 0, none⟩) 0 0) 22 hsz hgrow2 (by simpa using hg2) hgne hgw.2
             have hc2 : w2.cell? ⟨g', L.length, none⟩ = some (.slice (some ⟨wr.heap.size, 0, none⟩) 0 0) := by
               have := (Row.of_owns hown2).cell L.length (by simp)
               simpa using this
             have hf2 := (Row.of_owns hown2).free L.length
             have hg'w := hown2.lt g' rfl)
          | (refine wpList_append_two _ rfl (.tmp 34) (.tmp 36) 22 rfl w.heap.size 3 i0 (.int .i64 0) 1 8 Tryz.underlying22 hi' hz0 hz1 hz2 rfl (by decide) wr.heap.size 0 0 _ rfl (hL2.1.alloc _) ⟨w2.heap.size, 0, none⟩ 1 1 [.int .i64 j] rfl rfl (one_at _ _ rfl _ _) (one_int _ _) (by unfold maxLen; omega) (by omega) (by simp; omega) ?_
             intro g3 c3 w3 hown3 hgrow3 hg3
             have hc3 : w3.cell? ⟨g', L.length, none⟩ = some (.slice (some ⟨wr.heap.size, 0, none⟩) 0 0) := hgrow3.cell (by rw [World.cell?_alloc_lt]; exact hc2; exact hg'w.2) (by intro e; exact hL2.2.2.1 (Option.some.inj e).symm)
             have hf3 : w3.frozen? ⟨g', L.length, none⟩ = false := (((Row.of_owns hown2).alloc _).grown hgrow3 (by intro e; exact hL2.2.2.1 (Option.some.inj e).symm)).free _))
        go_roundg (lv.length + 1 - (j + 1))
        case measure => have := hk.out; omega
        case rel =>
          have hgg : g3 ≠ g' := by
            rcases hg3 with h | h
            · rw [h]; exact hL2.2.2.1
            · intro e; subst e; simp at h; omega
          have hu2 : Upd [] w w2 := ((hu.alloc _).alloc _).grown hgrow2 (fun k e => .inr (by cases e; exact hgw.1))
          have hu3 : Upd [] w w3 := (hu2.alloc _).grown hgrow3 (fun k e => .inr (by cases e; exact hsz))
          have hn3 : ∀ x, x ∈ L → x.g ≠ g3 := by
            intro x hx
            rcases hg3 with h | h
            · rw [h]; have := hL.lt x hx; omega
            · have := hL2.2.1.lt x hx; simp at h; omega
          have hL3 := (hL2.2.1.alloc _).grown hgrow3 (fun x hx e => by have := hL.lt x hx; have h9 : x.g = wr.heap.size := Option.some.inj e; omega)
          have hown4 := World.ownsRow.kept (World.ownsRow.alloc hown2 _) hgrow3 (.inr (by intro e; exact hL2.2.2.1 (Option.some.inj e).symm))
          refine ⟨j + 1, g', c', L ++ [⟨g3, c3, [j]⟩], v, by go_num, by omega, ?_, rfl, ?_, ?_, ?_, ?_, Nat.le_refl _⟩
          · simp
          · have hq := (hown4.stored L.length (Rn.hd ⟨g3, c3, [j]⟩)).1
            rw [show Rn.hd ⟨g3, c3, [j]⟩ = .slice (some ⟨g3, 0, none⟩) 1 c3 from rfl, set_end (by simp)] at hq
            rw [List.length_append, List.map_append]
            exact hq
          · refine RunsIn.other (RunsIn.snoc hL3 (x := ⟨g3, c3, [j]⟩) hown3 hn3) (p := ⟨g', L.length, none⟩) (fun x hx => ?_) _
            rcases List.mem_append.1 hx with hx | hx
            · exact hL2.2.2.2 x hx
            · simp at hx; subst hx; exact hgg
          · show _ = _
            rw [HS.out]; simp
          · exact hu3.setCell (p := ⟨g', L.length, none⟩) (.inr hg'w.1) _
    · have HE : Hid (L.map Rn.r = runs lv) := by
        obtain rfl : j = lv.length := by omega
        show _ = _; unfold runs; rw [HR.out]
      go_wp2
      go_ret
      exact ⟨g, cap, L, rfl, HE.out, hown, hL, hu⟩
end Go.Proofs.YtjahmnenfknjgaaGreatDoor
namespace Go.Proofs.YtjahmnenfknjgaaGreatDoor
open Go.RowKit Go.Maps

theorem RunsIn.pw {w : World} {B : Nat} {L : List Rn} (h : RunsIn w B L) : L.Pairwise (fun a b => a.g ≠ b.g) := by
  rw [List.pairwise_iff_getElem]
  exact fun i j hi hj hij => h.nd i j hi hj (by omega)
theorem RunsIn.of_pw {w : World} {B : Nat} {L : List Rn} (h : ∀ x, x ∈ L → x.Own w B) (hp : L.Pairwise (fun a b => a.g ≠ b.g)) : RunsIn w B L := by
  rw [List.pairwise_iff_getElem] at hp
  refine ⟨h, fun i j hi hj hij => ?_⟩
  by_cases e : i < j
  · exact hp i j hi hj e
  · exact (hp j i hj hi (by omega)).symm
theorem RunsIn.sub {w : World} {B : Nat} {L L' : List Rn} (h : RunsIn w B L) (hs : L'.Sublist L) : RunsIn w B L' :=
  .of_pw (fun x hx => h.own x (hs.subset hx)) (h.pw.sublist hs)
theorem own_low {w : World} {B B' : Nat} {e : TypeId} {size n : Nat} {v : Value} {xs : List Value} (h : w.ownsRow B e size v n xs) (hb : B' ≤ B) : w.ownsRow B' e size v n xs := by
  obtain ⟨h1, h2⟩ := h
  refine ⟨h1, ?_⟩
  rcases h2 with h2 | ⟨g, cap, cur, a, b, c⟩
  · exact .inl h2
  · exact .inr ⟨g, cap, cur, a, by omega, c⟩
theorem RunsIn.low {w : World} {B B' : Nat} {L : List Rn} (h : RunsIn w B L) (hb : B' ≤ B) : RunsIn w B' L :=
  ⟨fun x hx => own_low (h.own x hx) hb, h.nd⟩

/-- The map at block b: what it knows. -/
def Mp (w : World) (b n : Nat) (mp : List (Int × Nat)) : Prop :=
  ∃ D : DataW Empty, w.ownsMap Tryz.prog 3 (plainElem Tryz.prog 3) b n D ∧ (∀ key, has D (.int .i64 key) = (look mp key).isSome) ∧ ∀ key v, look mp key = some v → ∀ z, D.atKey (.int .i64 key) z = .lit (.int .i64 v)
theorem Mp.none (w : World) : Mp (w.alloc (.map #[] 0)) w.heap.size 0 [] := ⟨.map [], World.ownsMap_made _ _ _ _, fun _ => rfl, fun _ _ h => by simp [look] at h⟩
theorem Mp.kept {w w' : World} {b n : Nat} {mp : List (Int × Nat)} (h : Mp w b n mp) {row : Option Nat} (hg : w.grownBy w' row) (hne : some b ≠ row) : Mp w' b n mp := by
  obtain ⟨D, h1, h2⟩ := h; exact ⟨D, h1.kept hg hne, h2⟩
theorem Mp.alloc {w : World} {b n : Nat} {mp : List (Int × Nat)} (h : Mp w b n mp) (o : Obj) : Mp (w.alloc o) b n mp := by
  obtain ⟨D, h1, h2⟩ := h; exact ⟨D, h1.alloc o, h2⟩
theorem Mp.setCell {w : World} {b n : Nat} {mp : List (Int × Nat)} (h : Mp w b n mp) {p : Addr} (hne : b ≠ p.block) (u : Value) : Mp (w.setCell p u) b n mp := by
  obtain ⟨D, h1, h2⟩ := h; exact ⟨D, h1.setCell hne u, h2⟩
theorem Mp.mono {w : World} {b n n' : Nat} {mp : List (Int × Nat)} (h : Mp w b n mp) (hn : n ≤ n') : Mp w b n' mp := by
  obtain ⟨D, h1, h2⟩ := h; exact ⟨D, h1.mono hn, h2⟩
theorem Mp.lt {w : World} {b n : Nat} {mp : List (Int × Nat)} (h : Mp w b n mp) : b < w.heap.size := by obtain ⟨D, h1, h2⟩ := h; exact h1.lt
theorem Mp.upd {w w' : World} {b n : Nat} {mp : List (Int × Nat)} (h : Mp w b n mp) (hu : Upd [] w w') : Mp w' b n mp := by
  obtain ⟨D, ⟨es, cl, h1, h1'⟩, h2⟩ := h
  exact ⟨D, ⟨es, cl, by rw [hu.block b (World.ownsMap.lt ⟨es, cl, h1, h1'⟩) (by simp)]; exact h1, h1'⟩, h2⟩
theorem Mp.ne_row {w : World} {b n g : Nat} {mp : List (Int × Nat)} {ty : TypeId} {vs : List Value} (h : Mp w b n mp) (hr : Row w g ty vs) : g ≠ b := by
  obtain ⟨D, ⟨es, cl, h1, _⟩, _⟩ := h
  obtain ⟨rest, h2⟩ := hr
  intro e; subst e; rw [h1] at h2; cases h2
theorem Mp.ne_runs {w : World} {b n B : Nat} {mp : List (Int × Nat)} {L : List Rn} (h : Mp w b n mp) (hL : RunsIn w B L) : ∀ x, x ∈ L → x.g ≠ b := fun x hx => h.ne_row (hL.own x hx).row
theorem keyed3 : Keyed Tryz.prog 3 := int_keyed Tryz.underlying3
theorem zero3 (w : World) : (zeroValue 3).run Tryz.prog w = .ok (.int .i64 0) w := by kernel_rfl
theorem i64_wf (x : Int) (h : -1 ≤ x) (h' : x ≤ 2147483647) : (Lit.int .i64 x).wf = true := by
  have h1 : IntKind.i64.min = -9223372036854775808 := by decide
  have h2 : IntKind.i64.max = 9223372036854775807 := by decide
  simp [Lit.wf]; omega
theorem under128 : Tryz.prog.underlying 128 = some (.map 3 3) := by kernel_rfl
theorem Mp.ask {w : World} {ops : Array Oper} {rest : List Oper} {o : Oper} {a : Act} {Q : Exit → Act → World → Prop} {b n : Nat} {mp : List (Int × Nat)} (h : Mp w b n mp)
    (hg : o.guard = Option.none) (m x : Operand) (hop : o.op = Op.lookup 128 m x true) (hm : a.eval m = .map (Option.some b)) (key : Nat) (hx : a.eval x = .int .i64 key) (hk : key ≤ 2147483647)
    (hK : ∀ c : Int, (∀ v, look mp key = Option.some v → c = v) → wpList Tryz.prog ops Q rest (a.put o.dst (.tuple #[.int .i64 c, .bool (look mp key).isSome])) w) :
    wpList Tryz.prog ops Q (o :: rest) a w := by
  obtain ⟨D, h1, h2, h3⟩ := h
  refine wpList_lookup_own_ok_int w hg m x 128 hop 3 3 .i64 keyed3 under128 Tryz.underlying3 (zero3 w) b n D hm h1 _ (.int .i64 key) hx (keyOf_int_mk Tryz.underlying3 (i64_wf _ (by omega) (by omega))) (fun c hc _ => ?_)
  rw [h2]
  refine hK c (fun v hv => ?_)
  rw [h3 _ _ hv] at hc; cases hc; rfl
theorem Mp.put {w : World} {ops : Array Oper} {rest : List Oper} {o : Oper} {a : Act} {Q : Exit → Act → World → Prop} {b n : Nat} {mp : List (Int × Nat)} (h : Mp w b n mp)
    (hg : o.guard = Option.none) (m x v : Operand) (hop : o.op = Op.mapUpdate 128 m x v) (hm : a.eval m = .map (Option.some b)) (hn : n < maxLen) (key : Int) (hx : a.eval x = .int .i64 key) (hk0 : -1 ≤ key) (hk : key ≤ 2147483647)
    (k : Nat) (hv : a.eval v = .int .i64 k) (hk2 : k ≤ 2147483647)
    (hK : ∀ w', Mp w' b (n + 1) ((key, k) :: mp) → w.grownBy w' (Option.some b) → wpList Tryz.prog ops Q rest (a.put o.dst undef) w') :
    wpList Tryz.prog ops Q (o :: rest) a w := by
  obtain ⟨D, h1, h2, h3⟩ := h
  refine wpList_mapUpdate_own w hg m x v 128 hop 3 3 keyed3 under128 _ b n D hm h1 hn _ _ (.int .i64 key) hx hv (keyOf_int_mk Tryz.underlying3 (i64_wf _ (by omega) (by omega))) (.lit (.int .i64 k)) [] (plainElem_int Tryz.underlying3 (i64_wf _ (by omega) (by omega))) (fun w' h1' hg' => ?_)
  refine hK w' ⟨_, h1', fun key' => ?_, fun key' v' h' z => ?_⟩ hg'
  · simp only [look]
    split
    · rename_i e; subst e; rw [has_put_same h1.isMap (by trivial)]; rfl
    · rename_i e; rw [has_put_other (by intro e'; cases e'; exact e rfl)]; exact h2 key'
  · simp only [look] at h'
    split at h'
    · rename_i e; subst e; cases h'; rw [atKey_put_same h1.isMap (by trivial)]
    · rename_i e; rw [atKey_put_other (by intro e'; cases e'; exact e rfl)]; exact h3 key' v' h' z
end Go.Proofs.YtjahmnenfknjgaaGreatDoor
namespace Go.Proofs.YtjahmnenfknjgaaGreatDoor
open Go.RowKit Go.Maps

/-- What stands in a round: out's headers, the slices, the map, the rows read. -/
structure JI (w wr : World) (B b gm gr : Nat) (cs : List Cl) (L : List Rn) (j m g cap : Nat) (OUT : List Rn) (mp : List (Int × Nat)) : Prop where
  own : wr.ownsRow w.heap.size 22 1 (.slice (some ⟨g, 0, none⟩) OUT.length cap) OUT.length (OUT.map Rn.hd)
  run : RunsIn wr B (OUT ++ L.drop j)
  map : Mp wr b m mp
  rm : Row wr gm 3 (nums .i64 (mt cs))
  rr : Row wr gr 22 (L.map Rn.hd)
  ne : g ≠ gr
  wb : w.heap.size ≤ B
  bw : w.heap.size ≤ b
  gB : gm < B
  bB : b < B
  size : B ≤ wr.heap.size
  upd : Upd [] w wr
theorem JI.mono {w wr : World} {B b gm gr j m m' g cap : Nat} {cs : List Cl} {L OUT : List Rn} {mp : List (Int × Nat)} (h : JI w wr B b gm gr cs L j m g cap OUT mp) (hm : m ≤ m') : JI w wr B b gm gr cs L j m' g cap OUT mp := { h with map := h.map.mono hm }
theorem JI.put {w wr w' : World} {B b gm gr j m m' g cap : Nat} {cs : List Cl} {L OUT : List Rn} {mp mp' : List (Int × Nat)} (h : JI w wr B b gm gr cs L j m g cap OUT mp) (hg : wr.grownBy w' (some b)) (hm : Mp w' b m' mp') : JI w w' B b gm gr cs L j m' g cap OUT mp' where
  own := World.ownsRow.kept h.own hg (.inr (fun e => h.map.ne_row (Row.of_owns h.own) (Option.some.inj e)))
  run := h.run.grown hg (fun x hx e => h.map.ne_runs h.run x hx (Option.some.inj e))
  map := hm
  rm := h.rm.grown hg (fun e => h.map.ne_row h.rm (Option.some.inj e))
  rr := h.rr.grown hg (fun e => h.map.ne_row h.rr (Option.some.inj e))
  ne := h.ne
  wb := h.wb
  bw := h.bw
  gB := h.gB
  bB := h.bB
  size := Nat.le_trans h.size hg.size
  upd := h.upd.grown hg (fun k e => by cases e; exact .inr h.bw)
/-- A run appended as a new chain. -/
theorem JI.new {w wr w' : World} {B b gm gr j m g cap g' c' : Nat} {cs : List Cl} {L OUT : List Rn} {mp : List (Int × Nat)} {o : Obj} (h : JI w wr B b gm gr cs L j m g cap OUT mp) (hj : j < L.length)
    (hown : w'.ownsRow w.heap.size 22 1 (.slice (some ⟨g', 0, none⟩) (OUT.length + 1) c') (OUT.length + 1) (OUT.map Rn.hd ++ [L[j].hd])) (hg : (wr.alloc o).grownBy w' (some g)) (hf : g' = g ∨ (wr.alloc o).heap.size ≤ g') :
    JI w w' B b gm gr cs L (j + 1) m g' c' (OUT ++ [L[j]]) mp where
  own := by rw [List.length_append, List.map_append]; exact hown
  run := by
    have : (OUT ++ [L[j]]) ++ L.drop (j + 1) = OUT ++ L.drop j := by rw [List.append_assoc, List.drop_eq_getElem_cons hj]; rfl
    rw [this]
    exact (h.run.alloc o).grown hg (fun x hx e => h.run.ne_row (Row.of_owns h.own) (by decide) x hx (Option.some.inj e))
  map := (h.map.alloc o).kept hg (fun e => h.map.ne_row (Row.of_owns h.own) (Option.some.inj e).symm)
  rm := (h.rm.alloc o).grown hg (fun e => h.rm.ne_type (Row.of_owns h.own) (by decide) (Option.some.inj e))
  rr := (h.rr.alloc o).grown hg (fun e => h.ne (Option.some.inj e).symm)
  ne := by
    rcases hf with e | e
    · rw [e]; exact h.ne
    · have := h.rr.lt; simp only [World.size_alloc] at e; omega
  wb := h.wb
  bw := h.bw
  gB := h.gB
  bB := h.bB
  size := by have := hg.size; simp only [World.size_alloc] at this; have := h.size; omega
  upd := (h.upd.alloc o).grown hg (fun k e => by cases e; exact .inr (h.own.lt g rfl).1)
/-- A run appended to a chain. -/
theorem JI.app {w wr w' : World} {B b gm gr j m g cap g' c' k : Nat} {cs : List Cl} {L OUT : List Rn} {mp : List (Int × Nat)} (h : JI w wr B b gm gr cs L j m g cap OUT mp) (hj : j < L.length) (hk : k < OUT.length)
    (hown : w'.ownsRow B 3 1 (.slice (some ⟨g', 0, none⟩) (OUT[k].r.length + L[j].r.length) c') (OUT[k].r.length + L[j].r.length) (nums .i64 (nats OUT[k].r) ++ nums .i64 (nats L[j].r))) (hg : wr.grownBy w' (some OUT[k].g)) (hf : g' = OUT[k].g ∨ wr.heap.size ≤ g') :
    JI w (w'.setCell ⟨g, k, none⟩ (.slice (some ⟨g', 0, none⟩) (OUT[k].r.length + L[j].r.length) c')) B b gm gr cs L (j + 1) m g cap (OUT.set k ⟨g', c', OUT[k].r ++ L[j].r⟩) mp := by
  have hkm : OUT[k] ∈ OUT ++ L.drop j := List.mem_append.2 (.inl (List.getElem_mem hk))
  have hkB := (h.run.own _ hkm).lt
  have hgk : g ≠ OUT[k].g := fun e => h.run.ne_row (Row.of_owns h.own) (by decide) _ hkm e.symm
  have hgn : g' ≠ g := by
    rcases hf with e | e
    · rw [e]; exact hgk.symm
    · have := (h.own.lt g rfl).2; omega
  have hown1 : w'.ownsRow w.heap.size 22 1 (.slice (some ⟨g, 0, none⟩) OUT.length cap) OUT.length (OUT.map Rn.hd) := World.ownsRow.kept h.own hg (.inr (fun e => hgk (Option.some.inj e)))
  have hown2 := (hown1.stored k (Rn.hd ⟨g', c', OUT[k].r ++ L[j].r⟩)).1
  have ehd : Rn.hd ⟨g', c', OUT[k].r ++ L[j].r⟩ = .slice (some ⟨g', 0, none⟩) (OUT[k].r.length + L[j].r.length) c' := by simp [Rn.hd]
  rw [hd_set] at hown2
  rw [ehd] at hown2
  have hrun := h.run.grow1 (w' := w') (k := k) (g' := g') (c' := c') (more := L[j].r) (by simp; omega) (by
    rw [List.getElem_append_left hk]; simpa [nats, nums] using hown) (by rw [List.getElem_append_left hk]; exact hg) (by rw [List.getElem_append_left hk]; exact hf)
  rw [List.getElem_append_left hk, List.set_append_left _ _ hk] at hrun
  have hsub : List.Sublist ((OUT.set k ⟨g', c', OUT[k].r ++ L[j].r⟩) ++ L.drop (j + 1)) ((OUT.set k ⟨g', c', OUT[k].r ++ L[j].r⟩) ++ L.drop j) := by
    refine List.Sublist.append (List.Sublist.refl _) ?_
    rw [List.drop_eq_getElem_cons hj]; exact List.sublist_cons_self _ _
  have hrun2 := hrun.sub hsub
  have hne : ∀ x, x ∈ (OUT.set k ⟨g', c', OUT[k].r ++ L[j].r⟩) ++ L.drop (j + 1) → x.g ≠ g := fun x hx => hrun2.ne_row (Row.of_owns hown1) (by decide) x hx
  have hgw := h.own.lt g rfl
  refine { own := ?_, run := hrun2.other hne _, map := ?_, rm := ?_, rr := ?_, ne := h.ne, wb := h.wb, bw := h.bw, gB := h.gB, bB := h.bB, size := ?_, upd := ?_ }
  · rw [List.length_set]; exact hown2
  · exact (h.map.kept hg (fun e => h.map.ne_runs h.run _ hkm (Option.some.inj e).symm)).setCell (fun e => h.map.ne_row (Row.of_owns h.own) e.symm) _
  · exact (h.rm.grown hg (fun e => by have := Option.some.inj e; have := h.gB; omega)).other (p := ⟨g, k, none⟩) (h.rm.ne_type (Row.of_owns h.own) (by decide)) _
  · exact (h.rr.grown hg (fun e => h.run.ne_row h.rr (by decide) _ hkm (Option.some.inj e).symm)).other (p := ⟨g, k, none⟩) h.ne.symm _
  · rw [World.size_setCell]; exact Nat.le_trans h.size hg.size
  · exact (h.upd.grown hg (fun q e => by cases e; have := h.wb; exact .inr (by omega))).setCell (p := ⟨g, k, none⟩) (.inr hgw.1) _
theorem jk_pos {s : Jn} {r : List Nat} : jpos s r = (jk s r).getD s.out.length := rfl
theorem JI.read {w wr : World} {B b gm gr j m g cap : Nat} {cs : List Cl} {L OUT : List Rn} {mp : List (Int × Nat)} (h : JI w wr B b gm gr cs L j m g cap OUT mp) (hj : j < L.length) : L[j].Own wr B := h.run.own _ (List.mem_append.2 (.inr (by rw [List.drop_eq_getElem_cons hj]; exact List.mem_cons_self ..)))
theorem JI.newRow {w wr w' : World} {B b gm gr j m g cap : Nat} {cs : List Cl} {L OUT : List Rn} {mp : List (Int × Nat)} {o : Obj} (h : JI w wr B b gm gr cs L j m g cap OUT mp) (hj : j < L.length) (hg : (wr.alloc o).grownBy w' (some g)) : Row w' L[j].g 3 (nums .i64 (nats L[j].r)) :=
  ((h.read hj).row.alloc o).grown hg (fun e => (h.read hj).row.ne_type (Row.of_owns h.own) (by decide) (Option.some.inj e))
theorem JI.appRow {w wr w' : World} {B b gm gr j m g cap k : Nat} {u : Value} {cs : List Cl} {L OUT : List Rn} {mp : List (Int × Nat)} (h : JI w wr B b gm gr cs L j m g cap OUT mp) (hj : j < L.length) (hk : k < OUT.length) (hg : wr.grownBy w' (some OUT[k].g)) : Row (w'.setCell ⟨g, k, none⟩ u) L[j].g 3 (nums .i64 (nats L[j].r)) := by
  refine ((h.read hj).row.grown hg (fun e => ?_)).other (p := ⟨g, k, none⟩) ((h.read hj).row.ne_type (Row.of_owns h.own) (by decide)) _
  have := h.run.pw
  rw [List.pairwise_append] at this
  exact this.2.2 _ (List.getElem_mem hk) L[j] (by rw [List.drop_eq_getElem_cons hj]; exact List.mem_cons_self ..) (Option.some.inj e).symm
theorem JI.start {w wm wq : World} {cs : List Cl} {gr capr : Nat} {L : List Rn} (hum : Upd [] w wm) (hrm : Row wm w.heap.size 3 (nums .i64 (mt cs)))
    (hownr : wq.ownsRow ((wm.alloc (Obj.cells #[] 22)).alloc (Obj.map #[] 0)).heap.size 22 1 (Value.slice (some ⟨gr, 0, none⟩) L.length capr) L.length (List.map Rn.hd L))
    (hrunr : RunsIn wq ((wm.alloc (Obj.cells #[] 22)).alloc (Obj.map #[] 0)).heap.size L) (huq : Upd [] ((wm.alloc (Obj.cells #[] 22)).alloc (Obj.map #[] 0)) wq) :
    JI w wq ((wm.alloc (Obj.cells #[] 22)).alloc (Obj.map #[] 0)).heap.size (wm.alloc (Obj.cells #[] 22)).heap.size w.heap.size gr cs L 0 0 wm.heap.size 0 [] [] where
  own := own_upd ((World.ownsRow_lit (base := w.heap.size) (e := 22) (size := 1) wm #[] 0 hum.size (by decide) rfl).alloc _) huq (by simp)
  run := hrunr
  map := (Mp.none _).upd huq
  rm := ((hrm.alloc _).alloc _).upd huq (by simp)
  rr := Row.of_owns hownr
  ne := by have := hownr.lt gr rfl; simp at this; omega
  wb := by have := hum.size; simp; omega
  bw := by have := hum.size; simp; omega
  gB := by have := hrm.lt; simp; omega
  bB := by simp
  size := huq.size
  upd := ((hum.alloc _).alloc _).then huq
theorem mt_bounds {cs : List Cl} {i : Nat} (h : i < cs.length) (hm : cs.length ≤ 2147483647) : nth (mt cs) i ≤ 2147483647 ∧ -1 ≤ nth (mt cs) i := by
  rw [nth_mt h]
  cases hi : (cat cs i).isInit
  · rw [mAt_other hi]; decide
  · rw [mAt_init hi]; have := mOf_le cs i; omega
theorem add_zero_off (g q : Nat) : (⟨g, 0, none⟩ : Addr).add q = ⟨g, q, none⟩ := by
  simp only [Addr.add]; split
  · rename_i h; subst h; rfl
  · simp
theorem lastOf_memS {r : List Nat} (h : r ≠ []) : lastOf r ∈ r := by
  have : 0 < r.length := List.length_pos_iff.2 h
  rw [lastOf, ← nat_eq (by omega)]; exact List.getElem_mem _
theorem head_mem {r : List Nat} (h : r ≠ []) : nat r 0 ∈ r := by
  have : 0 < r.length := List.length_pos_iff.2 h
  rw [← nat_eq (by omega)]; exact List.getElem_mem _

set_option maxHeartbeats 8000000 in
set_option maxRecDepth 100000 in
theorem joined_any (A1 A2 : Option Addr) (c1 c2 : Nat) (cs : List Cl) (lv : List Int) (w : World) (hc : Rd w A1 (nums .i64 (clsI cs))) (hl : Rd w A2 (nums .i64 lv)) (hn : cs.length = lv.length) (hm : lv.length ≤ 2147483647) :
    Calls Tryz.prog 66 #[.slice A1 lv.length c1, .slice A2 lv.length c2] w (RetRuns w (joined cs lv)) := by
  obtain ⟨i0, hi', hz0, hz1, hz2⟩ := info_parts info3
  obtain ⟨i1, hj', hy0, hy1, hy2⟩ := info_parts info22
  have hmm := @run_makeMap Tryz.prog
  have HMT := Lib.hid (fun w => matching_any A1 c1 cs w)
  have HRN := Lib.hid (fun w => sRuns_any A2 c2 lv w)
  have hmc : cs.length ≤ 2147483647 := by omega
  go_enter Tryz.func66, Tryz.ntmps66
  go_wp2_with (first
    | (go_at_call 31; rw [← hn]; refine (HMT.out _ hc hmc).mono ?_; rintro e wm ⟨rfl, hrm, hum⟩; rw [hn])
    | (go_at_call 93; refine (HRN.out _ (hl.keep ((hum.alloc _).alloc _)) hm).mono ?_; rintro e wq ⟨gr, capr, L, rfl, hLr, hownr, hrunr, huq⟩))
  have hst := JI.start hum hrm hownr hrunr huq
  have HLr := Lib.hid hLr
  have HRM : Hid (∀ r, r ∈ runs lv → r ≠ [] ∧ (∀ q, q ∈ r → q < lv.length) ∧ r.length ≤ lv.length) := fun r hr => ⟨(runs_mem hr).1, fun q hq => ((runs_mem hr).2 q hq).1, Nat.le_trans (tot_ge hr) (rst_tot lv lv.length)⟩
  have hLlen : L.length ≤ lv.length := by have := rst_len lv lv.length; rw [show L.length = (runs lv).length from by rw [← hLr]; simp]; exact this
  have hru : ∀ {wr}, Upd [] w wr → Row wr gr 22 (L.map Rn.hd) → True := fun _ _ => trivial
  simp only [World.size_alloc] at hst
  clear hLr hru hownr hrunr huq hum hrm
  generalize hB2 : wm.heap.size + 1 + 1 = B at hst
  generalize hB3 : wm.heap.size = g0 at *
  generalize hB4 : w.heap.size = gm at *
  clear hB2 hB3
  go_loopg [6, 20] (L.length + 1) (fun k o i wr => ∃ (j g cap : Nat) (OUT : List Rn) (mp : List (Int × Nat)), i = .int .i64 j ∧ j ≤ L.length ∧ o = .slice (some ⟨g, 0, none⟩) OUT.length cap ∧ JI w wr B (g0 + 1) gm gr cs L j j g cap OUT mp ∧ Hid (jst cs (runs lv) j = ⟨OUT.map Rn.r, mp⟩) ∧ Hid (L.length + 1 - j ≤ k))
  case atStart => exact ⟨0, g0, 0, [], [], rfl, by omega, rfl, hst, rfl, Nat.le_refl _⟩
  case round =>
    obtain ⟨j, g, cap, OUT, mp, rfl, hj, rfl, hJ, HJ, hk⟩ := hrel
    by_cases hlt : j < L.length
    · have hy := hJ.read hlt
      have hrs : L[j].r ∈ runs lv := by rw [← HLr.out]; exact List.mem_map.2 ⟨_, List.getElem_mem hlt, rfl⟩
      obtain ⟨hr1, hr2, hr3⟩ := HRM.out _ hrs
      have hlat : lat (runs lv) j = L[j].r := by rw [← HLr.out]; exact lat_map hlt
      have hcr : wr.cell? ⟨gr, j, none⟩ = some (.slice (some ⟨L[j].g, 0, none⟩) L[j].r.length L[j].cap) := by have := hJ.rr.cell j (by simpa using hlt); rw [this, List.getElem_map]; rfl
      have NEW := Lib.hid (fun g' c' w' o h1 h2 h3 => And.intro (JI.new (o := o) (g' := g') (c' := c') (w' := w') hJ hlt h1 h2 h3) (JI.newRow (o := o) hJ hlt h2))
      have APP := Lib.hid (fun k (hk : k < OUT.length) g' c' w' h1 h2 h3 => And.intro (JI.app (g' := g') (c' := c') (w' := w') hJ hlt hk h1 h2 h3) (JI.appRow (u := .slice (some ⟨g', 0, none⟩) (OUT[k].r.length + L[j].r.length) c') hJ hlt hk h2))
      have HST : Hid (jst cs (runs lv) (j + 1) = jstep cs ⟨OUT.map Rn.r, mp⟩ L[j].r) := by show _ = _; rw [jst, HJ.out, hlat]
      have hlen := List.length_pos_iff.2 hr1
      have hln : lastOf L[j].r < lv.length := hr2 _ (lastOf_memS hr1)
      have hhd : nat L[j].r 0 < lv.length := hr2 _ (head_mem hr1)
      have hlst : nat L[j].r (L[j].r.length - 1) = lastOf L[j].r := rfl
      have hOK := jst_ok cs (runs lv) j
      rw [HJ.out] at hOK
      have hOl := jst_len cs (runs lv) j
      rw [HJ.out] at hOl
      simp only [List.length_map] at hOl
      have HOK : Hid (∀ key k, look mp key = some k → k < OUT.length) := fun key k h => by simpa using hOK key k h
      obtain ⟨ga, oa, rfl, hcc⟩ := hc.num (lastOf L[j].r) (by simpa [clsI] using (hn ▸ hln))
      rw [nth_clsI (by omega)] at hcc
      have hmt : (nth (mt cs) (lastOf L[j].r)) ≤ 2147483647 ∧ -1 ≤ nth (mt cs) (lastOf L[j].r) := mt_bounds (by omega) (by omega)
      have hmc2 : Hid (nth (mt cs) (lastOf L[j].r) = nth (mt cs) (lastOf L[j].r)) := rfl
      have hny : Hid (∀ (wx : World), Row wx L[j].g 3 (nums .i64 (nats L[j].r)) → wx.cell? ⟨L[j].g, L[j].r.length - 1, none⟩ = some (.int .i64 (lastOf L[j].r))) := fun wx h => by
        have := h.num (L[j].r.length - 1) (by simp [nats]; omega); rw [this, nth_nats (by omega)]; rfl
      have hyc : wr.cell? ⟨L[j].g, 0, none⟩ = some (.int .i64 (nat L[j].r 0)) := by
        have := hy.row.num 0 (by simp [nats]; omega); rw [this, nth_nats (by omega)]
      have hmm2 : Hid (∀ (wx : World), Row wx gm 3 (nums .i64 (mt cs)) → wx.cell? ⟨gm, lastOf L[j].r, none⟩ = some (.int .i64 (nth (mt cs) (lastOf L[j].r)))) := fun wx h => h.num _ (by rw [mt_length]; omega)
      have hLc : ((L[j].r.length : Int) - 1) = ((L[j].r.length - 1 : Nat) : Int) := by omega
      clear hlat hrs hr1 hr2 hOK HRM hlst HMT HRN
      have ISI : Hid (∀ (b : Bool) (_ : (cat cs (lastOf L[j].r)).isInit = b) (w : World), Calls Tryz.prog 59 #[.int .i64 (cat cs (lastOf L[j].r)).e1] w fun e w' => e = .returned (.bool b) ∧ w = w') := by
        intro b hb w; subst hb; exact isInit_any _ w
      have hjm : j < maxLen := by unfold maxLen; omega
      cases hlk : look mp (nat L[j].r 0) with
      | none =>
        cases hii : (cat cs (lastOf L[j].r)).isInit with
        | false =>
          have HS : Hid (jst cs (runs lv) (j + 1) = ⟨(OUT ++ [L[j]]).map Rn.r, mp⟩) := by
            refine HST.out.trans ?_
            simp [jstep, jout, jpos, jk, hlk, hii]
          have ISN := Lib.hid (ISI.out false hii)
          clear hii HST ISI
          go_wp2_with (first
            | (at_lookup; refine Mp.ask hJ.map rfl _ _ rfl rfl (nat L[j].r 0) rfl (by omega) ?_; intro c0 hc0; rw [hlk])
            | (go_at_call 59; refine (ISN.out _).mono ?_; rintro e w' ⟨rfl, rfl⟩)
            | (at_builtin; refine wpList_append_two _ rfl (.tmp 44) (.tmp 46) 98 rfl w.heap.size 22 i1 (.slice none 0 0) 1 24 Tryz.underlying98 hj' hy0 hy1 hy2 rfl (by decide) g OUT.length cap _ rfl (hJ.own.alloc _) ⟨wr.heap.size, 0, none⟩ 1 1 [L[j].hd] rfl rfl (one_at _ _ rfl _ _) (by simp [Value.oneCell', Rn.hd]) (by unfold maxLen; omega) (by omega) (by simp; have := hJ.upd.size; omega) ?_
               intro g' c' w3 hown3 hgrow3 hg3
               obtain ⟨hJ3, hry3⟩ := NEW.out g' c' w3 _ hown3 hgrow3 hg3
               have hny3 := hny.out _ hry3
               have hcc3 := hJ3.upd.cell hcc (by simp)
               have hmt3 := hmm2.out _ hJ3.rm))
          go_roundg (L.length + 1 - (j + 1))
          case measure => have := hk.out; omega
          case rel => exact ⟨j + 1, g', c', OUT ++ [L[j]], mp, by go_num, by omega, by simp, hJ3.mono (by omega), HS, Nat.le_refl _⟩
        | true =>
          have HS : Hid (jst cs (runs lv) (j + 1) = ⟨(OUT ++ [L[j]]).map Rn.r, (nth (mt cs) (lastOf L[j].r), OUT.length) :: mp⟩) := by
            refine HST.out.trans ?_
            simp [jstep, jout, jpos, jk, hlk, hii]
          have ISN := Lib.hid (ISI.out true hii)
          clear hii HST ISI
          go_wp2_with (first
            | (at_lookup; refine Mp.ask hJ.map rfl _ _ rfl rfl (nat L[j].r 0) rfl (by omega) ?_; intro c0 hc0; rw [hlk])
            | (go_at_call 59; refine (ISN.out _).mono ?_; rintro e w' ⟨rfl, rfl⟩)
            | (at_builtin; refine wpList_append_two _ rfl (.tmp 44) (.tmp 46) 98 rfl w.heap.size 22 i1 (.slice none 0 0) 1 24 Tryz.underlying98 hj' hy0 hy1 hy2 rfl (by decide) g OUT.length cap _ rfl (hJ.own.alloc _) ⟨wr.heap.size, 0, none⟩ 1 1 [L[j].hd] rfl rfl (one_at _ _ rfl _ _) (by simp [Value.oneCell', Rn.hd]) (by unfold maxLen; omega) (by omega) (by simp; have := hJ.upd.size; omega) ?_
               intro g' c' w3 hown3 hgrow3 hg3
               obtain ⟨hJ3, hry3⟩ := NEW.out g' c' w3 _ hown3 hgrow3 hg3
               have hny3 := hny.out _ hry3
               have hcc3 := hJ3.upd.cell hcc (by simp)
               have hmt3 := hmm2.out _ hJ3.rm)
            | (at_mapUpdate; refine Mp.put hJ3.map rfl _ _ _ rfl rfl hjm (nth (mt cs) (lastOf L[j].r)) rfl hmt.2 hmt.1 OUT.length rfl (by omega) ?_
               intro w4 hm4 hg4
               have hJ4 := hJ3.put hg4 hm4))
          go_roundg (L.length + 1 - (j + 1))
          case measure => have := hk.out; omega
          case rel => exact ⟨j + 1, g', c', OUT ++ [L[j]], (nth (mt cs) (lastOf L[j].r), OUT.length) :: mp, by go_num, by omega, by simp, hJ4, HS, Nat.le_refl _⟩
      | some k =>
        have hlkk := hlk
        have hkO : k < OUT.length := HOK.out _ _ hlk
        have hkm : OUT[k] ∈ OUT ++ L.drop j := List.mem_append.2 (.inl (List.getElem_mem hkO))
        have hxo : wr.ownsRow B 3 1 (.slice (some ⟨OUT[k].g, 0, none⟩) OUT[k].r.length OUT[k].cap) OUT[k].r.length (nums .i64 (nats OUT[k].r)) := hJ.run.own _ hkm
        have hgx : g ≠ OUT[k].g := fun e => hJ.run.ne_row (Row.of_owns hJ.own) (by decide) _ hkm e.symm
        have hcx : wr.cell? ⟨g, k, none⟩ = some OUT[k].hd := by have := (Row.of_owns hJ.own).cell k (by simpa using hkO); rw [this, List.getElem_map]
        have hcx2 : wr.cell? ⟨g, k, none⟩ = some (.slice (some ⟨OUT[k].g, 0, none⟩) OUT[k].r.length OUT[k].cap) := hcx
        have hyn : ∀ q u, (nums .i64 (nats L[j].r))[q]? = some u → wr.cell? ((⟨L[j].g, 0, none⟩ : Addr).add q) = some u := by
          intro q u hq
          obtain ⟨hq1, hq2⟩ := List.getElem?_eq_some_iff.1 hq
          have := hy.row.cell q hq1
          rw [← hq2, ← this, add_zero_off]
        have hrk : OUT[k].r.length + L[j].r.length ≤ lv.length := by
          have h1 := jst_tot cs (runs lv) (j + 1) (by rw [← HLr.out, List.length_map]; exact hlt)
          have h2 := tot_take (runs lv) (j + 1)
          have h3 : tot (runs lv) ≤ lv.length := rst_tot lv lv.length
          have h4 : (OUT[k].r ++ L[j].r) ∈ (jst cs (runs lv) (j + 1)).out := by
            rw [HST.out]
            simp only [jstep, jout, jk, hlk]
            rw [lat_map hkO]
            exact List.mem_set (by rw [List.length_map]; exact hkO) _
          have h5 := tot_ge h4
          rw [List.length_append] at h5
          omega
        cases hii : (cat cs (lastOf L[j].r)).isInit with
        | false =>
          have HS : Hid (jst cs (runs lv) (j + 1) = ⟨(OUT.set k ⟨0, 0, OUT[k].r ++ L[j].r⟩).map Rn.r, mp⟩) := by
            refine HST.out.trans ?_
            simp [jstep, jout, jpos, jk, hlk, hii, lat, hkO, List.map_set]
          have ISN := Lib.hid (ISI.out false hii)
          clear hii HST ISI
          clear hlkk
          go_wp2_with (first
            | (at_lookup; refine Mp.ask hJ.map rfl _ _ rfl rfl (nat L[j].r 0) rfl (by omega) ?_; intro c0 hc0; rw [hlk]; obtain rfl := hc0 k hlk)
            | (go_at_call 59; refine (ISN.out _).mono ?_; rintro e w' ⟨rfl, rfl⟩)
            | (at_builtin; refine wpList_append_two _ rfl (.tmp 38) (.tmp 39) 22 rfl B 3 i0 (.int .i64 0) 1 8 Tryz.underlying22 hi' hz0 hz1 hz2 rfl (by decide) OUT[k].g OUT[k].r.length OUT[k].cap _ rfl hxo ⟨L[j].g, 0, none⟩ L[j].r.length L[j].cap (nums .i64 (nats L[j].r)) rfl (by simp [nats, nums]) hyn (nums_one _ _) (by unfold maxLen; omega) (by omega) hJ.size ?_
               intro g' c' w3 hown3 hgrow3 hg3
               obtain ⟨hJ3, hry3⟩ := APP.out k hkO g' c' w3 hown3 hgrow3 hg3
               have hny3 := hny.out _ hry3
               have hcc3 := hJ3.upd.cell hcc (by simp)
               have hmt3 := hmm2.out _ hJ3.rm
               have hcell3 : w3.cell? ⟨g, k, none⟩ = some (OUT[k].hd) := hgrow3.cell hcx (fun e => hgx (Option.some.inj e))
               have hfr3 : w3.frozen? ⟨g, k, none⟩ = false := (((Row.of_owns hJ.own).grown hgrow3 (fun e => hgx (Option.some.inj e))).free k)))
          go_roundg (L.length + 1 - (j + 1))
          case measure => have := hk.out; omega
          case rel => exact ⟨j + 1, g, cap, OUT.set k ⟨g', c', OUT[k].r ++ L[j].r⟩, mp, by go_num, by omega, by simp, hJ3.mono (by omega), HS.out.trans (by simp only [List.map_set]), Nat.le_refl _⟩
        | true =>
          have HS : Hid (jst cs (runs lv) (j + 1) = ⟨(OUT.set k ⟨0, 0, OUT[k].r ++ L[j].r⟩).map Rn.r, (nth (mt cs) (lastOf L[j].r), k) :: mp⟩) := by
            refine HST.out.trans ?_
            simp [jstep, jout, jpos, jk, hlk, hii, lat, hkO, List.map_set]
          have ISN := Lib.hid (ISI.out true hii)
          clear hii HST ISI
          clear hlkk
          go_wp2_with (first
            | (at_lookup; refine Mp.ask hJ.map rfl _ _ rfl rfl (nat L[j].r 0) rfl (by omega) ?_; intro c0 hc0; rw [hlk]; obtain rfl := hc0 k hlk)
            | (go_at_call 59; refine (ISN.out _).mono ?_; rintro e w' ⟨rfl, rfl⟩)
            | (at_builtin; refine wpList_append_two _ rfl (.tmp 38) (.tmp 39) 22 rfl B 3 i0 (.int .i64 0) 1 8 Tryz.underlying22 hi' hz0 hz1 hz2 rfl (by decide) OUT[k].g OUT[k].r.length OUT[k].cap _ rfl hxo ⟨L[j].g, 0, none⟩ L[j].r.length L[j].cap (nums .i64 (nats L[j].r)) rfl (by simp [nats, nums]) hyn (nums_one _ _) (by unfold maxLen; omega) (by omega) hJ.size ?_
               intro g' c' w3 hown3 hgrow3 hg3
               obtain ⟨hJ3, hry3⟩ := APP.out k hkO g' c' w3 hown3 hgrow3 hg3
               have hny3 := hny.out _ hry3
               have hcc3 := hJ3.upd.cell hcc (by simp)
               have hmt3 := hmm2.out _ hJ3.rm
               have hcell3 : w3.cell? ⟨g, k, none⟩ = some (OUT[k].hd) := hgrow3.cell hcx (fun e => hgx (Option.some.inj e))
               have hfr3 : w3.frozen? ⟨g, k, none⟩ = false := (((Row.of_owns hJ.own).grown hgrow3 (fun e => hgx (Option.some.inj e))).free k))
            | (at_mapUpdate; refine Mp.put hJ3.map rfl _ _ _ rfl rfl hjm (nth (mt cs) (lastOf L[j].r)) rfl hmt.2 hmt.1 k rfl (by omega) ?_
               intro w4 hm4 hg4
               have hJ4 := hJ3.put hg4 hm4))
          go_roundg (L.length + 1 - (j + 1))
          case measure => have := hk.out; omega
          case rel => exact ⟨j + 1, g, cap, OUT.set k ⟨g', c', OUT[k].r ++ L[j].r⟩, (nth (mt cs) (lastOf L[j].r), k) :: mp, by go_num, by omega, by simp, hJ4, HS.out.trans (by simp only [List.map_set]), Nat.le_refl _⟩
    · have HE : Hid (OUT.map Rn.r = joined cs lv) := by
        obtain rfl : j = L.length := by omega
        show _ = _
        unfold joined
        rw [show (runs lv).length = L.length from by rw [← HLr.out]; simp, HJ.out]
      have hrun := hJ.run
      rw [show j = L.length from by omega, List.drop_length, List.append_nil] at hrun
      have hfin := And.intro hJ.own (And.intro (hrun.low hJ.wb) hJ.upd)
      rw [hB4] at hfin
      go_wp2
      go_ret
      refine ⟨g, cap, OUT, rfl, HE.out, ?_⟩
      rw [hB4]; exact hfin
end Go.Proofs.YtjahmnenfknjgaaGreatDoor
namespace Go.Proofs.YtjahmnenfknjgaaGreatDoor
open Go.RowKit Go.Maps

def chCells (F : List Nat → Chn) (x : Rn) : List Value := [x.hd, .int .i64 (F x.r).lev, .int .i64 (F x.r).so.e1, .int .i64 (F x.r).eo.e1]
def chRow (F : List Nat → Chn) (L : List Rn) : List Value := L.flatMap (chCells F)
theorem chRow_snoc (F : List Nat → Chn) (L : List Rn) (j : Nat) (h : j < L.length) : chRow F (L.take j) ++ chCells F L[j] = chRow F (L.take (j + 1)) := by
  unfold chRow; rw [List.take_succ_eq_append_getElem h, List.flatMap_append]; simp
/-- Chains handed back: a row of structs of four cells, the places in blocks of their own. -/
def RetChains (w : World) (cs : List Cl) (lv : List Int) (base : Int) (e : Ending) (w' : World) : Prop :=
  ∃ (g cap : Nat) (L : List Rn), e = .returned (.slice (some ⟨g, 0, none⟩) L.length cap) ∧ L.map Rn.r = joined cs lv ∧ w'.ownsRow w.heap.size 54 4 (.slice (some ⟨g, 0, none⟩) L.length cap) L.length (chRow (chnOf cs lv base) L) ∧ RunsIn w' w.heap.size L ∧ Upd [] w w'
theorem info54 : (Tryz.prog.info? 54).map (fun i => (i.zero, i.size, i.bytes)) = some (some (.agg #[.slice none 0 0, .int .i64 0, .int .i64 0, .int .i64 0]), 4, 48) := by kernel_rfl
theorem four_at (w : World) (n : Nat) (hn : n = w.heap.size) (u1 u2 u3 u4 : Value) (ty : TypeId) : ∀ j v, [u1, u2, u3, u4][j]? = some v → (w.alloc (.cells #[u1, u2, u3, u4] ty)).cell? ((⟨n, 0, none⟩ : Addr).add j) = some v := by
  subst hn
  intro j v hj
  match j, hj with
  | 0, hj => simp at hj; subst hj; simp [Addr.add]
  | 1, hj => simp at hj; subst hj; simp [Addr.add]
  | 2, hj => simp at hj; subst hj; simp [Addr.add]
  | 3, hj => simp at hj; subst hj; simp [Addr.add]
  | n + 4, hj => simp at hj

theorem befLv_le {lv : List Int} {base M : Int} (hb : base ≤ M) (h : ∀ q, q < lv.length → nth lv q ≤ M) : ∀ p, p ≤ lv.length → befLv lv base p ≤ M
  | 0, _ => hb
  | p + 1, hp => by
    unfold befLv; split
    · exact befLv_le hb h p (by omega)
    · exact h p (by omega)
theorem aftLv_le {lv : List Int} {base M : Int} (hb : base ≤ M) (h : ∀ q, q < lv.length → nth lv q ≤ M) (p : Nat) : aftLv lv base p ≤ M := by
  unfold aftLv
  cases hf : (lv.drop p).find? (fun x => x != -1) with
  | none => exact hb
  | some x =>
    have hx := List.mem_of_mem_drop (List.mem_of_find?_eq_some hf)
    obtain ⟨i, hi, rfl⟩ := List.getElem_of_mem hx
    have := h i hi
    rw [← nth_eq hi] at this; exact this

theorem four_eq (a b : Value) {X X' Y Y' : Int} (h : X = X') (h' : Y = Y') : [a, b, Value.int .i64 (dirOf X).e1, .int .i64 (dirOf Y).e1] = [a, b, .int .i64 (dirOf X').e1, .int .i64 (dirOf Y').e1] := by rw [h, h']

/-- What stands in a round. -/
structure CI (w wr : World) (gm gr : Nat) (cs : List Cl) (lv : List Int) (base : Int) (L : List Rn) (j g cap : Nat) : Prop where
  own : wr.ownsRow w.heap.size 54 4 (.slice (some ⟨g, 0, none⟩) j cap) j (chRow (chnOf cs lv base) (L.take j))
  run : RunsIn wr w.heap.size L
  rm : Row wr gm 3 (nums .i64 (mt cs))
  rr : Row wr gr 22 (L.map Rn.hd)
  upd : Upd [] w wr
theorem CI.next {w wr w' : World} {gm gr j g cap g' c' : Nat} {cs : List Cl} {lv : List Int} {base : Int} {L : List Rn} {o : Obj} {y : List Value} (h : CI w wr gm gr cs lv base L j g cap) (hj : j < L.length) (hy : y = chCells (chnOf cs lv base) L[j])
    (hown : w'.ownsRow w.heap.size 54 4 (.slice (some ⟨g', 0, none⟩) (j + 1) c') (j + 1) (chRow (chnOf cs lv base) (L.take j) ++ y)) (hg : (wr.alloc o).grownBy w' (some g)) : CI w w' gm gr cs lv base L (j + 1) g' c' where
  own := by rw [← chRow_snoc _ _ _ hj, ← hy]; exact hown
  run := (h.run.alloc o).grown hg (fun x hx e => h.run.ne_row (Row.of_owns h.own) (by decide) x hx (Option.some.inj e))
  rm := (h.rm.alloc o).grown hg (fun e => h.rm.ne_type (Row.of_owns h.own) (by decide) (Option.some.inj e))
  rr := (h.rr.alloc o).grown hg (fun e => h.rr.ne_type (Row.of_owns h.own) (by decide) (Option.some.inj e))
  upd := (h.upd.alloc o).grown hg (fun k e => by cases e; exact .inr (h.own.lt g rfl).1)
theorem CI.start {w wm wq : World} {cs : List Cl} {lv : List Int} {base : Int} {gr capr : Nat} {L : List Rn} (hum : Upd [] w wm) (hrm : Row wm w.heap.size 3 (nums .i64 (mt cs)))
    (hownr : wq.ownsRow (wm.alloc (Obj.cells #[] 54)).heap.size 22 1 (Value.slice (some ⟨gr, 0, none⟩) L.length capr) L.length (List.map Rn.hd L))
    (hrunr : RunsIn wq (wm.alloc (Obj.cells #[] 54)).heap.size L) (huq : Upd [] (wm.alloc (Obj.cells #[] 54)) wq) :
    CI w wq w.heap.size gr cs lv base L 0 wm.heap.size 0 where
  own := own_upd ((World.ownsRow_lit (base := w.heap.size) (e := 54) (size := 4) wm #[] 0 hum.size (by decide) rfl)) huq (by simp)
  run := hrunr.low (by have := hum.size; simp; omega)
  rm := (hrm.alloc _).upd huq (by simp)
  rr := Row.of_owns hownr
  upd := (hum.alloc _).then huq

set_option maxHeartbeats 8000000 in
set_option maxRecDepth 100000 in
theorem sChains_any (A1 A2 : Option Addr) (c1 c2 : Nat) (cs : List Cl) (lv : List Int) (base : Int) (w : World) (hc : Rd w A1 (nums .i64 (clsI cs))) (hl : Rd w A2 (nums .i64 lv)) (hn : cs.length = lv.length) (hb0 : 0 ≤ base) (hb1 : base ≤ 1000) (hlv : ∀ q, q < lv.length → -1 ≤ nth lv q ∧ nth lv q ≤ 1000) (hm : lv.length ≤ 2147483647) :
    Calls Tryz.prog 33 #[.slice A1 lv.length c1, .slice A2 lv.length c2, .int .i64 base] w (RetChains w cs lv base) := by
  obtain ⟨i1, hj', hy0, hy1, hy2⟩ := info_parts info54
  have HMT := Lib.hid (fun w => matching_any A1 c1 cs w)
  have HJN := Lib.hid (fun w h1 h2 => joined_any A1 A2 c1 c2 cs lv w h1 h2 hn hm)
  have hmc : cs.length ≤ 2147483647 := by omega
  have HLV := Lib.hid hlv
  clear hlv
  go_enter Tryz.func33, Tryz.ntmps33
  go_wp2_with (first
    | (go_at_call 31; rw [← hn]; refine (HMT.out _ hc hmc).mono ?_; rintro e wm ⟨rfl, hrm, hum⟩; rw [hn])
    | (go_at_call 66; refine (HJN.out _ (hc.keep (hum.alloc _)) (hl.keep (hum.alloc _))).mono ?_; rintro e wq ⟨gr, capr, L, rfl, hLr, hownr, hrunr, huq⟩))
  have hst := CI.start (lv := lv) (base := base) hum hrm hownr hrunr huq
  have HLr := Lib.hid hLr
  have hLlen : L.length ≤ lv.length := by
    have h1 := jst_len cs (runs lv) (runs lv).length
    have h2 : (runs lv).length ≤ lv.length := rst_len lv lv.length
    have h3 : L.length = (joined cs lv).length := by rw [← hLr]; simp
    unfold joined at h3; omega
  generalize hB3 : wm.heap.size = g0 at *
  generalize hB4 : w.heap.size = gm at *
  clear hLr hownr hrunr huq hum hrm hB3
  go_loopg [8, 22] (L.length + 1) (fun k o i wr => ∃ (j g cap : Nat), i = .int .i64 j ∧ j ≤ L.length ∧ o = .slice (some ⟨g, 0, none⟩) j cap ∧ CI w wr gm gr cs lv base L j g cap ∧ Hid (L.length + 1 - j ≤ k))
  case atStart => exact ⟨0, g0, 0, rfl, by omega, rfl, hst, Nat.le_refl _⟩
  case round =>
    obtain ⟨j, g, cap, rfl, hj, rfl, hJ, hk⟩ := hrel
    by_cases hlt : j < L.length
    · have hrs : L[j].r ∈ joined cs lv := by rw [← HLr.out]; exact List.mem_map.2 ⟨_, List.getElem_mem hlt, rfl⟩
      obtain ⟨hr1, hr2⟩ := joined_mem hrs
      have hr3 := joined_len hrs
      have hy := hJ.run.own _ (List.getElem_mem hlt)
      have hcr : wr.cell? ⟨gr, j, none⟩ = some (.slice (some ⟨L[j].g, 0, none⟩) L[j].r.length L[j].cap) := by have := hJ.rr.cell j (by simpa using hlt); rw [this, List.getElem_map]; rfl
      have NEW := Lib.hid (fun g' c' w' o y hy h1 h2 => CI.next (o := o) (g' := g') (c' := c') (w' := w') (y := y) hJ hlt hy h1 h2)
      have hlen := List.length_pos_iff.2 hr1
      have hln : lastOf L[j].r < lv.length := (hr2 _ (lastOf_memS hr1)).1
      have hhd : nat L[j].r 0 < lv.length := (hr2 _ (head_mem hr1)).1
      have hl0 : 0 ≤ nth lv (nat L[j].r 0) ∧ nth lv (nat L[j].r 0) ≤ 1000 := by
        have h1 := HLV.out _ hhd
        have h2 := (hr2 _ (head_mem hr1)).2
        omega
      obtain ⟨ga, oa, rfl, hcc⟩ := hc.num (lastOf L[j].r) (by simpa [clsI] using (hn ▸ hln))
      rw [nth_clsI (by omega)] at hcc
      have hccr := hJ.upd.cell hcc (by simp)
      obtain ⟨gl, ol, rfl, hcl⟩ := (hl.keep hJ.upd).num (nat L[j].r 0) hhd
      have hny : wr.cell? ⟨L[j].g, L[j].r.length - 1, none⟩ = some (.int .i64 (lastOf L[j].r)) := by
        have := hy.row.num (L[j].r.length - 1) (by simp [nats]; omega); rw [this, nth_nats (by omega)]; rfl
      have hyc : wr.cell? ⟨L[j].g, 0, none⟩ = some (.int .i64 (nat L[j].r 0)) := by
        have := hy.row.num 0 (by simp [nats]; omega); rw [this, nth_nats (by omega)]
      have hmt3 : wr.cell? ⟨gm, lastOf L[j].r, none⟩ = some (.int .i64 (nth (mt cs) (lastOf L[j].r))) := hJ.rm.num _ (by rw [mt_length]; omega)
      have hLc : ((L[j].r.length : Int) - 1) = ((L[j].r.length - 1 : Nat) : Int) := by omega
      have BEF := Lib.hid (before_any (some ⟨gl, ol, none⟩) c2 lv (nat L[j].r 0) base wr (hl.keep hJ.upd) (by omega) hm)
      have BEH := Lib.hid (behind_any (some ⟨gl, ol, none⟩) c2 lv (lastOf L[j].r) base wr (hl.keep hJ.upd) hln hm)
      have ISI : Hid (∀ (b : Bool) (_ : (cat cs (lastOf L[j].r)).isInit = b) (w : World), Calls Tryz.prog 59 #[.int .i64 (cat cs (lastOf L[j].r)).e1] w fun e w' => e = .returned (.bool b) ∧ w = w') := by
        intro b hb w; subst hb; exact isInit_any _ w
      have hbv := befLv_le (lv := lv) hb1 (fun q hq => (HLV.out q hq).2) (nat L[j].r 0) (by omega)
      have hav := aftLv_le (lv := lv) hb1 (fun q hq => (HLV.out q hq).2) (lastOf L[j].r + 1)
      clear hrs hr1 hr2
      have HMX : Hid (max (nth lv (nat L[j].r 0)) (nth lv (nat L[j].r 0)) = nth lv (nat L[j].r 0)) := by show _ = _; omega
      cases hii : (cat cs (lastOf L[j].r)).isInit with
      | false =>
        have hcf : chCells (chnOf cs lv base) L[j] = [L[j].hd, .int .i64 (nth lv (nat L[j].r 0)), .int .i64 (dirOf (max (nth lv (nat L[j].r 0)) (befLv lv base (nat L[j].r 0)))).e1, .int .i64 (dirOf (max (nth lv (nat L[j].r 0)) (aftLv lv base (lastOf L[j].r + 1)))).e1] := by
          simp only [chCells, chnOf, elev]; rw [if_pos (.inl hii)]
        have HCF := Lib.hid hcf
        have ISN := Lib.hid (ISI.out false hii)
        clear hcf hii ISI
        generalize hV0 : nth lv (nat L[j].r 0) = v0 at *
        generalize hBV : befLv lv base (nat L[j].r 0) = bv at *
        clear hV0 hBV
        generalize hA : (aftLv lv base (lastOf L[j].r + 1)) = av at *
        clear hA
        go_wp2_with (first
          | (go_at_call 59; refine (ISN.out _).mono ?_; rintro e w' ⟨rfl, rfl⟩)
          | (go_at_call 67; first | (with_reducible refine BEF.out.mono ?_; rintro e w' ⟨rfl, rfl⟩) | (with_reducible refine BEH.out.mono ?_; rintro e w' ⟨rfl, rfl⟩))
          | (go_at_call 68; first | (refine (direction_any _ _ (by omega) (by omega)).mono ?_; rintro e w' ⟨rfl, rfl⟩))
          | (at_builtin; refine wpList_append_two _ rfl (.tmp 64) (.tmp 76) 52 rfl w.heap.size 54 i1 _ 4 48 Tryz.underlying52 hj' hy0 hy1 hy2 rfl (by decide) g j cap _ rfl (hJ.own.alloc _) ⟨wr.heap.size, 0, none⟩ 1 1 [_, _, _, _] rfl rfl (four_at _ _ rfl _ _ _ _ _) (by simp [Value.oneCell']) (by unfold maxLen; omega) (by omega) (by simp; have := hJ.upd.size; omega) ?_
             intro g' c' w3 hown3 hgrow3 hg3
             have hJ3 := NEW.out g' c' w3 _ _ ((four_eq _ _ (by omega) (by omega)).trans HCF.out.symm) hown3 hgrow3))
        all_goals (
          go_roundg (L.length + 1 - (j + 1))
          case measure => have := hk.out; omega
          case rel => exact ⟨j + 1, g', c', by go_num, by omega, rfl, hJ3, Nat.le_refl _⟩)
      | true =>
        by_cases hml : nth (mt cs) (lastOf L[j].r) < (lv.length : Int)
        · skip
          have hcf : chCells (chnOf cs lv base) L[j] = [L[j].hd, .int .i64 (nth lv (nat L[j].r 0)), .int .i64 (dirOf (max (nth lv (nat L[j].r 0)) (befLv lv base (nat L[j].r 0)))).e1, .int .i64 (dirOf (max (nth lv (nat L[j].r 0)) (aftLv lv base (lastOf L[j].r + 1)))).e1] := by
            simp only [chCells, chnOf, elev]; rw [if_pos (.inr (by omega))]
          have HCF := Lib.hid hcf
          have ISN := Lib.hid (ISI.out true hii)
          clear hcf hii ISI
          generalize hV0 : nth lv (nat L[j].r 0) = v0 at *
          generalize hBV : befLv lv base (nat L[j].r 0) = bv at *
          clear hV0 hBV
          generalize hA : (aftLv lv base (lastOf L[j].r + 1)) = av at *
          clear hA
          go_wp2_with (first
            | (go_at_call 59; refine (ISN.out _).mono ?_; rintro e w' ⟨rfl, rfl⟩)
            | (go_at_call 67; first | (with_reducible refine BEF.out.mono ?_; rintro e w' ⟨rfl, rfl⟩) | (with_reducible refine BEH.out.mono ?_; rintro e w' ⟨rfl, rfl⟩))
            | (go_at_call 68; first | (refine (direction_any _ _ (by omega) (by omega)).mono ?_; rintro e w' ⟨rfl, rfl⟩))
            | (at_builtin; refine wpList_append_two _ rfl (.tmp 64) (.tmp 76) 52 rfl w.heap.size 54 i1 _ 4 48 Tryz.underlying52 hj' hy0 hy1 hy2 rfl (by decide) g j cap _ rfl (hJ.own.alloc _) ⟨wr.heap.size, 0, none⟩ 1 1 [_, _, _, _] rfl rfl (four_at _ _ rfl _ _ _ _ _) (by simp [Value.oneCell']) (by unfold maxLen; omega) (by omega) (by simp; have := hJ.upd.size; omega) ?_
               intro g' c' w3 hown3 hgrow3 hg3
               have hJ3 := NEW.out g' c' w3 _ _ ((four_eq _ _ (by omega) (by omega)).trans HCF.out.symm) hown3 hgrow3))
          all_goals (
            go_roundg (L.length + 1 - (j + 1))
            case measure => have := hk.out; omega
            case rel => exact ⟨j + 1, g', c', by go_num, by omega, rfl, hJ3, Nat.le_refl _⟩)
        · skip
          have hcf : chCells (chnOf cs lv base) L[j] = [L[j].hd, .int .i64 (nth lv (nat L[j].r 0)), .int .i64 (dirOf (max (nth lv (nat L[j].r 0)) (befLv lv base (nat L[j].r 0)))).e1, .int .i64 (dirOf (max (nth lv (nat L[j].r 0)) base)).e1] := by
            simp only [chCells, chnOf, elev]; rw [if_neg (by rw [hii]; intro h; rcases h with h | h; cases h; omega)]
          have HCF := Lib.hid hcf
          have ISN := Lib.hid (ISI.out true hii)
          clear hcf hii ISI
          generalize hV0 : nth lv (nat L[j].r 0) = v0 at *
          generalize hBV : befLv lv base (nat L[j].r 0) = bv at *
          clear hV0 hBV
          go_wp2_with (first
            | (go_at_call 59; refine (ISN.out _).mono ?_; rintro e w' ⟨rfl, rfl⟩)
            | (go_at_call 67; first | (refine BEF.out.mono ?_; rintro e w' ⟨rfl, rfl⟩))
            | (go_at_call 68; first | (refine (direction_any _ _ (by omega) (by omega)).mono ?_; rintro e w' ⟨rfl, rfl⟩))
            | (at_builtin; refine wpList_append_two _ rfl (.tmp 64) (.tmp 76) 52 rfl w.heap.size 54 i1 _ 4 48 Tryz.underlying52 hj' hy0 hy1 hy2 rfl (by decide) g j cap _ rfl (hJ.own.alloc _) ⟨wr.heap.size, 0, none⟩ 1 1 [_, _, _, _] rfl rfl (four_at _ _ rfl _ _ _ _ _) (by simp [Value.oneCell']) (by unfold maxLen; omega) (by omega) (by simp; have := hJ.upd.size; omega) ?_
               intro g' c' w3 hown3 hgrow3 hg3
               have hJ3 := NEW.out g' c' w3 _ _ ((four_eq _ _ (by omega) (by omega)).trans HCF.out.symm) hown3 hgrow3))
          all_goals (
            go_roundg (L.length + 1 - (j + 1))
            case measure => have := hk.out; omega
            case rel => exact ⟨j + 1, g', c', by go_num, by omega, rfl, hJ3, Nat.le_refl _⟩)
    · obtain rfl : j = L.length := by omega
      have hfin := And.intro hJ.own (And.intro hJ.run hJ.upd)
      rw [List.take_length, hB4] at hfin
      go_wp2
      go_ret
      refine ⟨g, cap, L, rfl, HLr.out, ?_⟩
      rw [hB4]; exact hfin
end Go.Proofs.YtjahmnenfknjgaaGreatDoor
