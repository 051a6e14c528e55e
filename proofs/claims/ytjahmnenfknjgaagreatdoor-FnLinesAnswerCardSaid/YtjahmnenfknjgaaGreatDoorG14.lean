/- The package's determineLevelRuns, by its contract. -/
import Derived.Test.YtjahmnenfknjgaaGreatDoorG8
import Derived.Test.YtjahmnenfknjgaaGreatDoorG12
import Derived.Test.YtjahmnenfknjgaaGreatDoorG6
import Derived.Test.YtjahmnenfknjgaaGreatDoorG11
set_option linter.unusedVariables false
set_option linter.unusedSimpArgs false
namespace Go.Proofs.YtjahmnenfknjgaaGreatDoor
open Go.RowKit

/-- An append onto nil. -/
theorem wpList_append_nil {P : Program} (w : World) {ops : Array Oper} {rest : List Oper} {o : Oper} {a : Act} {Q : Exit → Act → World → Prop}
    (hg : o.guard = none) (s x : Operand) (t : TypeId) (hop : o.op = Op.call { callee := Callee.builtin Builtin.append, args := #[s, x], argTypes := #[t, t] })
    (e : TypeId) (i : TypeInfo) (z : Value) (size bytes : Nat) (h1 : P.underlying t = some (.slice e)) (h2 : P.info? e = some i) (h3 : i.zero = some z) (h4 : i.size = size) (h5 : i.bytes = bytes) (h6 : z.cells.size = size) (h7 : 0 < size)
    (hs : a.eval s = .slice none 0 0)
    (ad : Addr) (m c : Nat) (news : List Value) (hx : a.eval x = .slice (some ad) m c) (hn : news.length = m * size) (hc : ∀ j u, news[j]? = some u → w.cell? (ad.add j) = some u) (h1c : ∀ u ∈ news, u.oneCell' = true)
    (b0 : 0 < m) (b1 : m ≤ maxLen) (b2 : m * bytes ≤ 140737488355328)
    (hK : ∀ g' c' w', w'.ownsRow w.heap.size e size (.slice (some ⟨g', 0, none⟩) m c') m news → w.grownBy w' none → wpList P ops Q rest (a.put o.dst (.slice (some ⟨g', 0, none⟩) m c')) w') :
    wpList P ops Q (o :: rest) a w := by
  refine wpList_append_grows w hg s x t hop e i z size bytes h1 h2 h3 h4 h5 h6 h7 none 0 0 [] hs (fun _ => ⟨rfl, rfl⟩) (by simp) (fun b hb => by cases hb) ad m c news hx hn hc h1c (by omega) (by omega) (by simpa using b2) fun v' w' r1 r2 => ?_
  rw [Nat.zero_add] at r1
  obtain ⟨g', c', rfl, hg'⟩ := owns_slice' r1 b0
  rw [List.nil_append] at r1
  have := hK g' c' w' r1 r2
  simpa using this

theorem owns_base {w : World} {b b' size n : Nat} {e : TypeId} {v : Value} {xs : List Value} (h : w.ownsRow b e size v n xs) (hb : b' ≤ b) : w.ownsRow b' e size v n xs := by
  refine ⟨h.1, ?_⟩
  rcases h.2 with h0 | ⟨g, cap, cur, h1, h2, h3⟩
  · exact .inl h0
  · exact .inr ⟨g, cap, cur, h1, by omega, h3⟩
/-- The last of some inner slices is appended to. -/
theorem RunsIn.growLast {w w' : World} {B g' c' : Nat} {L : List Rn} {x : Rn} {more : List Nat} (h : RunsIn w B (L ++ [x])) (hown : w'.ownsRow B 3 1 (.slice (some ⟨g', 0, none⟩) (x.r ++ more).length c') (x.r ++ more).length (nums .i64 (nats (x.r ++ more)))) (hg : w.grownBy w' (some x.g)) (hf : g' = x.g ∨ w.heap.size ≤ g') :
    RunsIn w' B (L ++ [⟨g', c', x.r ++ more⟩]) := by
  have hk : L.length < (L ++ [x]).length := by simp
  have e : (L ++ [x])[L.length] = x := by simp
  have := h.grow1 (w' := w') (g' := g') (c' := c') (more := more) hk (by rw [e]; exact hown) (by rw [e]; exact hg) (by rw [e]; exact hf)
  rw [e] at this
  simpa using this

theorem RunsIn.init {w : World} {B : Nat} {L : List Rn} {x : Rn} (h : RunsIn w B (L ++ [x])) : RunsIn w B L :=
  ⟨fun y hy => h.own y (by simp [hy]), fun i j hi hj hij => by
    have := h.nd i j (by simp; omega) (by simp; omega) hij
    rwa [List.getElem_append_left hi, List.getElem_append_left hj] at this⟩

set_option maxHeartbeats 8000000 in
set_option maxRecDepth 100000 in
theorem levelRuns_any (b g0 k0 gL kL : Nat) (cs : List Cl) (V : List Int) (w : World) (h0 : w.cell? ⟨b, 0, none⟩ = some (.slice (some ⟨g0, 0, none⟩) cs.length k0)) (h5 : w.cell? ⟨b, 5, none⟩ = some (.slice (some ⟨gL, 0, none⟩) cs.length kL))
    (hc0 : Row w g0 77 (clsU cs)) (hV : Row w gL 112 (nums .i8 V)) (hVl : V.length = cs.length) (hpos : ∀ q, q < cs.length → (cat cs q).isRem = false → 0 ≤ nth V q) (hm : cs.length ≤ 2147483647) :
    Calls Tryz.prog 105 #[.pointer (some ⟨b, 0, none⟩)] w (RetRuns w (runs (klv cs V))) := by
  obtain ⟨i0, hi', hz0, hz1, hz2⟩ := info_parts info3
  obtain ⟨i1, hj', hy0, hy1, hy2⟩ := info_parts info22
  have HF : Hid (∀ wx, Upd [] w wx → wx.cell? ⟨b, 0, none⟩ = some (.slice (some ⟨g0, 0, none⟩) cs.length k0) ∧ wx.cell? ⟨b, 5, none⟩ = some (.slice (some ⟨gL, 0, none⟩) cs.length kL)) := fun wx hu => ⟨hu.cell h0 (by simp), hu.cell h5 (by simp)⟩
  have HP := Lib.hid hpos
  have HVL := Lib.hid hVl
  have HR0 : Hid (((w.alloc (.cells #[] 3)).alloc (.cells #[] 22)).ownsRow w.heap.size 22 1 (.slice (some ⟨w.heap.size + 1, 0, none⟩) 0 0) 0 []) := by
    have := World.ownsRow_lit (base := w.heap.size) (e := 22) (size := 1) (w.alloc (.cells #[] 3)) #[] 0 (by simp) (by decide) rfl
    show World.ownsRow _ _ _ _ _ _ _
    simpa using this
  have HX0 : Hid (RunsIn ((w.alloc (.cells #[] 3)).alloc (.cells #[] 22)) w.heap.size ([] ++ [⟨w.heap.size, 0, []⟩])) := by
    refine (RunsIn.nil _ _).snoc ?_ (by simp)
    exact World.ownsRow.alloc (World.ownsRow_lit (base := w.heap.size) (e := 3) (size := 1) w #[] 0 (Nat.le_refl _) (by decide) rfl) _
  obtain ⟨k0', k5'⟩ := HF.out _ (((Upd.refl [] w).alloc (.cells #[] 3)).alloc (.cells #[] 22))
  clear hpos hVl h0 h5
  go_enter Tryz.func105, Tryz.ntmps105
  go_wp2
  clear k0' k5'
  go_loopg [3, 4, 5, 14] (cs.length + 1) (fun k r a c i wr => ∃ (j g cap : Nat) (L : List Rn) (x : Rn) (last : Int), r = .slice (some ⟨x.g, 0, none⟩) x.r.length x.cap ∧ a = .slice (some ⟨g, 0, none⟩) L.length cap ∧ c = .int .i8 last ∧ i = .int .i64 j ∧ j ≤ cs.length ∧
      wr.ownsRow w.heap.size 22 1 (.slice (some ⟨g, 0, none⟩) L.length cap) L.length (L.map Rn.hd) ∧ RunsIn wr w.heap.size (L ++ [x]) ∧ Hid (RunSt (klv cs V) j (L.map Rn.r) x.r last) ∧ Upd [] w wr ∧ Hid (cs.length + 1 - j ≤ k))
  case atStart => exact ⟨0, w.heap.size + 1, 0, [], ⟨w.heap.size, 0, []⟩, -1, rfl, rfl, rfl, rfl, by omega, HR0.out, HX0.out, RunSt.start _, ((Upd.refl _ _).alloc _).alloc _, Nat.le_refl _⟩
  case round =>
    obtain ⟨j, g, cap, L, x, last, rfl, rfl, rfl, rfl, hj, hown, hL, HR, hu, hk⟩ := hrel
    have hgw := hown.lt g rfl
    have hgne := hL.ne_row (Row.of_owns hown) (by decide)
    have hxo : wr.ownsRow w.heap.size 3 1 (.slice (some ⟨x.g, 0, none⟩) x.r.length x.cap) x.r.length (nums .i64 (nats x.r)) := hL.own x (by simp)
    have hxg := hxo.lt x.g rfl
    have hxne : x.g ≠ g := hgne x (by simp)
    have hsz := hu.size
    obtain ⟨hLl, hxl⟩ := HR.out.len
    rw [List.length_map] at hLl
    by_cases hlt : j < cs.length
    · obtain ⟨k0', k5'⟩ := HF.out _ hu
      have hc := (hc0.upd hu (by simp)).cls j hlt
      have hv := (hV.upd hu (by simp)).num j (by rw [HVL.out]; exact hlt)
      by_cases hr : (cat cs j).isRem = true
      · have HS : Hid (RunSt (klv cs V) (j + 1) (L.map Rn.r) x.r last) := HR.out.skip (by rw [nth_klv hlt, if_pos hr])
        have hrt : (cat cs j).isRem = true := hr
        go_wp2_with (go_at_call 131; refine (removed_any (cat cs j) _).mono ?_; rintro e w' ⟨rfl, rfl⟩)
        go_roundg (cs.length + 1 - (j + 1))
        case measure => have := hk.out; omega
        case rel => exact ⟨j + 1, g, cap, L, x, last, rfl, rfl, rfl, by go_num, by omega, hown, hL, HS, hu, Nat.le_refl _⟩
      · have hr0 : (cat cs j).isRem = false := by simpa using hr
        have hv0 := HP.out j hlt hr0
        have hkl : nth (klv cs V) j = nth V j := by rw [nth_klv hlt, hr0]; rfl
        obtain ⟨v, hvv⟩ : ∃ v, v = nth V j := ⟨_, rfl⟩
        rw [← hvv] at hv hv0 hkl
        have HKL := Lib.hid hkl
        have HVV := Lib.hid hvv
        clear hvv hkl hr
        by_cases he : v = last
        · have b1 : (v != last) = false := by simpa using he
          have HS : Hid (RunSt (klv cs V) (j + 1) (L.map Rn.r) (x.r ++ [j]) last) := HR.out.same (by rw [HKL.out]; exact hv0) (by rw [HKL.out]; exact he)
          clear he
          go_wp2_with (first
            | (go_at_call 131; refine (removed_any (cat cs j) _).mono ?_; rintro e w' ⟨rfl, rfl⟩)
            | (at_builtin; refine wpList_append_two _ rfl (.tmp 48) (.tmp 50) 22 rfl w.heap.size 3 i0 (.int .i64 0) 1 8 Tryz.underlying22 hi' hz0 hz1 hz2 rfl (by decide) x.g x.r.length x.cap _ rfl (hxo.alloc _) ⟨wr.heap.size, 0, none⟩ 1 1 [.int .i64 j] rfl rfl (one_at _ _ (by simp) _ _) (one_int _ _) (by unfold maxLen; omega) (by omega) (by simp; omega) ?_; intro g' c' w2 hown2 hgrow2 hg2))
          go_roundg (cs.length + 1 - (j + 1))
          case measure => have := hk.out; omega
          case rel =>
            refine ⟨j + 1, g, cap, L, ⟨g', c', x.r ++ [j]⟩, last, by simp, rfl, rfl, by go_num, by omega, World.ownsRow.kept (World.ownsRow.alloc hown _) hgrow2 (.inr (by intro e; exact hxne (Option.some.inj e).symm)), ?_, HS, (hu.alloc _).grown hgrow2 (fun k e => .inr (by cases e; exact hxg.1)), Nat.le_refl _⟩
            exact RunsIn.growLast (hL.alloc _) (by simpa [nums, nats] using hown2) hgrow2 (by simpa using hg2)
        · have b1 : (v != last) = true := by simpa using he
          by_cases hl1 : last = -1
          · subst hl1
            have HS : Hid (RunSt (klv cs V) (j + 1) (L.map Rn.r) (x.r ++ [j]) v) := by
              have := HR.out.first (by rw [HKL.out]; exact hv0)
              rw [HKL.out] at this; exact this
            clear he
            go_wp2_with (first
              | (go_at_call 131; refine (removed_any (cat cs j) _).mono ?_; rintro e w' ⟨rfl, rfl⟩)
              | (at_builtin; refine wpList_append_two _ rfl (.tmp 48) (.tmp 50) 22 rfl w.heap.size 3 i0 (.int .i64 0) 1 8 Tryz.underlying22 hi' hz0 hz1 hz2 rfl (by decide) x.g x.r.length x.cap _ rfl (hxo.alloc _) ⟨wr.heap.size, 0, none⟩ 1 1 [.int .i64 j] rfl rfl (one_at _ _ (by simp) _ _) (one_int _ _) (by unfold maxLen; omega) (by omega) (by simp; omega) ?_; intro g' c' w2 hown2 hgrow2 hg2))
            go_roundg (cs.length + 1 - (j + 1))
            case measure => have := hk.out; omega
            case rel =>
              refine ⟨j + 1, g, cap, L, ⟨g', c', x.r ++ [j]⟩, v, by simp, rfl, rfl, by go_num, by omega, World.ownsRow.kept (World.ownsRow.alloc hown _) hgrow2 (.inr (by intro e; exact hxne (Option.some.inj e).symm)), ?_, HS, (hu.alloc _).grown hgrow2 (fun k e => .inr (by cases e; exact hxg.1)), Nat.le_refl _⟩
              exact RunsIn.growLast (hL.alloc _) (by simpa [nums, nats] using hown2) hgrow2 (by simpa using hg2)
          · have hl0 : 0 ≤ last := by
              rcases HR.out with h | h
              · exact absurd h.1 hl1
              · exact h.1
            have HS : Hid (RunSt (klv cs V) (j + 1) (L.map Rn.r ++ [x.r]) [j] v) := by
              have := HR.out.next hl0 (by rw [HKL.out]; exact hv0) (by rw [HKL.out]; exact he)
              rw [HKL.out] at this; exact this
            clear he hl1
            go_wp2_with (first
              | (go_at_call 131; refine (removed_any (cat cs j) _).mono ?_; rintro e w' ⟨rfl, rfl⟩)
              | (at_builtin; refine wpList_append_two _ rfl (.tmp 37) (.tmp 39) 98 rfl w.heap.size 22 i1 (.slice none 0 0) 1 24 Tryz.underlying98 hj' hy0 hy1 hy2 rfl (by decide) g L.length cap _ rfl (hown.alloc _) ⟨wr.heap.size, 0, none⟩ 1 1 [.slice (some ⟨x.g, 0, none⟩) x.r.length x.cap] rfl rfl (one_at _ wr.heap.size (by simp) _ _) (by simp [Value.oneCell']) (by unfold maxLen; omega) (by omega) (by simp; omega) ?_
                 intro g' c' w2 hown2 hgrow2 hg2
                 have hu2 : Upd [] w w2 := (hu.alloc _).grown hgrow2 (fun k e => .inr (by cases e; exact hgw.1))
                 have hL2 : RunsIn w2 w.heap.size (L ++ [x]) := (hL.alloc _).grown hgrow2 (fun y hy e => hgne y hy (Option.some.inj e))
                 have hv2 := (hV.upd hu2 (by simp)).num j (by rw [HVL.out]; exact hlt)
                 rw [← HVV.out] at hv2
                 have hsz2 := hu2.size
                 obtain ⟨j0, j5⟩ := HF.out _ hu2)
              | (at_builtin; refine wpList_append_nil _ rfl (.tmp 48) (.tmp 50) 22 rfl 3 i0 (.int .i64 0) 1 8 Tryz.underlying22 hi' hz0 hz1 hz2 rfl (by decide) rfl ⟨w2.heap.size, 0, none⟩ 1 1 [.int .i64 j] rfl rfl (one_at _ _ (by simp) _ _) (one_int _ _) (by omega) (by unfold maxLen; omega) (by omega) ?_
                 intro g3 c3 w3 hown3 hgrow3))
            go_roundg (cs.length + 1 - (j + 1))
            case measure => have := hk.out; omega
            case rel =>
              have hu3 : Upd [] w w3 := (hu2.alloc _).grown0 hgrow3
              have hL3 : RunsIn w3 w.heap.size (L ++ [x]) := (hL2.alloc _).grown hgrow3 (fun y hy e => by cases e)
              have hx3 := hown3.lt g3 rfl
              simp only [World.size_alloc] at hx3
              refine ⟨j + 1, g', c', L ++ [x], ⟨g3, c3, [j]⟩, v, rfl, by simp, rfl, by go_num, by omega, ?_, hL3.snoc ?_ ?_, ?_, hu3, Nat.le_refl _⟩
              · have := World.ownsRow.kept (World.ownsRow.alloc hown2 (.cells #[.int .i64 j] 3)) hgrow3 (.inr (fun e => by cases e))
                simpa [Rn.hd] using this
              · exact owns_base hown3 (by simp; omega)
              · intro y hy e
                have h1 := hL2.lt y hy
                simp only [] at e
                omega
              · show RunSt _ _ _ _ _
                simpa using HS.out
    · obtain rfl : j = cs.length := by omega
      have hR := HR.out
      have hkl2 := klv_length cs V
      by_cases hx0 : x.r = []
      · have hxl0 : ((x.r.length : Nat) : Int) = 0 := by rw [hx0]; rfl
        have HS : Hid (runs (klv cs V) = L.map Rn.r) := RunSt.fin_none (by rw [hkl2]; exact hR) hx0
        clear hR hx0 hkl2
        go_wp2
        go_ret
        exact ⟨g, cap, L, rfl, HS.out.symm, hown, hL.init, hu⟩
      · have hxp : 0 < x.r.length := List.length_pos_iff.2 hx0
        have HS : Hid (runs (klv cs V) = L.map Rn.r ++ [x.r]) := RunSt.fin_some (by rw [hkl2]; exact hR) hx0
        clear hR hx0 hkl2
        go_wp2_with (at_builtin; refine wpList_append_two _ rfl (.tmp 56) (.tmp 58) 98 rfl w.heap.size 22 i1 (.slice none 0 0) 1 24 Tryz.underlying98 hj' hy0 hy1 hy2 rfl (by decide) g L.length cap _ rfl (hown.alloc _) ⟨wr.heap.size, 0, none⟩ 1 1 [.slice (some ⟨x.g, 0, none⟩) x.r.length x.cap] rfl rfl (one_at _ wr.heap.size (by simp) _ _) (by simp [Value.oneCell']) (by unfold maxLen; omega) (by omega) (by simp; omega) ?_; intro g' c' w2 hown2 hgrow2 hg2; have hu2 : Upd [] w w2 := (hu.alloc _).grown hgrow2 (fun k e => .inr (by cases e; exact hgw.1)); have hL2 : RunsIn w2 w.heap.size (L ++ [x]) := (hL.alloc _).grown hgrow2 (fun y hy e => hgne y hy (Option.some.inj e)))
        go_ret
        exact ⟨g', c', L ++ [x], by simp, by rw [HS.out]; simp, by simpa [Rn.hd] using hown2, hL2, hu2⟩
end Go.Proofs.YtjahmnenfknjgaaGreatDoor
namespace Go.Proofs.YtjahmnenfknjgaaGreatDoor
open Go.RowKit

theorem Row.at_addr {w : World} {g : Nat} {ty : TypeId} {vs : List Value} (h : Row w g ty vs) : ∀ j u, vs[j]? = some u → w.cell? ((⟨g, 0, none⟩ : Addr).add j) = some u := fun j u hj => by
  obtain ⟨hl, rfl⟩ := List.getElem?_eq_some_iff.1 hj
  have := h.cell j hl
  by_cases e : j = 0
  · subst e; simpa [Addr.add] using this
  · simpa [Addr.add, e] using this
theorem clsU_one (l : List Cl) : ∀ u ∈ clsU l, u.oneCell' = true := by
  intro u hu
  simp only [clsU, List.mem_map] at hu
  obtain ⟨c, _, rfl⟩ := hu
  rfl

end Go.Proofs.YtjahmnenfknjgaaGreatDoor
