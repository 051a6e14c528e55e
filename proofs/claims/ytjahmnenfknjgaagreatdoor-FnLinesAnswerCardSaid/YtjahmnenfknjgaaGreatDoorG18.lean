/- sort's order2, median, medianAdjacent, choosePivot at pairs of brackets, each by its contract. -/
import Derived.Test.YtjahmnenfknjgaaGreatDoorG17
import Derived.Sort.LotD4
set_option linter.unusedVariables false
set_option linter.unusedSimpArgs false
namespace Go.Proofs.YtjahmnenfknjgaaGreatDoor
open Go.RowKit Go.Sort

/-- The counter of swaps. -/
def Cnt (w : World) (cb s : Nat) : Prop := Row w cb 3 [.int .i64 (s : Int)]
theorem Cnt.cell {w : World} {cb s : Nat} (h : Cnt w cb s) : w.cell? ⟨cb, 0, none⟩ = some (.int .i64 (s : Int)) := Row.cell h 0 (by simp)
theorem Cnt.free {w : World} {cb s : Nat} (h : Cnt w cb s) : w.frozen? ⟨cb, 0, none⟩ = false := Row.free h 0
theorem Cnt.upd {S : List Nat} {w w' : World} {cb s : Nat} (h : Cnt w cb s) (hu : Upd S w w') (hn : cb ∉ S) : Cnt w' cb s := Row.upd h hu hn
theorem Cnt.set {w : World} {cb s : Nat} (h : Cnt w cb s) (t : Nat) : Cnt (w.setCell ⟨cb, 0, none⟩ (.int .i64 (t : Int))) cb t := Row.set h 0 (.int .i64 (t : Int)) (by simp)
theorem Cnt.ne {w : World} {cb s blk : Nat} {d : PA} (h : Cnt w cb s) (hp : PR w blk d) : blk ≠ cb := Row.ne_type hp h (by decide)
/-- The row d and the counter s, all else as in w0. -/
structure SC (blk cb : Nat) (w0 : World) (d : PA) (s : Nat) (w : World) : Prop where
  pr : PR w blk d
  ct : Cnt w cb s
  up : Upd [cb] w0 w
theorem SC.to {blk cb : Nat} {w0 w w' : World} {d : PA} {s t : Nat} (h : SC blk cb w0 d s w) (k : SC blk cb w d t w') : SC blk cb w0 d t w' := ⟨k.pr, k.ct, h.up.trans k.up⟩
theorem SC.upd0 {blk cb : Nat} {w0 w w' : World} {d : PA} {s : Nat} (h : SC blk cb w0 d s w) (hu : Upd [] w w') : SC blk cb w0 d s w' := ⟨h.pr.upd0 hu, h.ct.upd hu (by simp), h.up.then hu⟩
theorem SC.set {blk cb : Nat} {w0 w : World} {d : PA} {s : Nat} (h : SC blk cb w0 d s w) (t : Nat) : SC blk cb w0 d t (w.setCell ⟨cb, 0, none⟩ (.int .i64 (t : Int))) :=
  ⟨h.pr.upd ((Upd.refl [cb] w).setCell (p := ⟨cb, 0, none⟩) (.inl (by simp)) _) (by simpa using h.ct.ne h.pr), h.ct.set t, h.up.setCell (p := ⟨cb, 0, none⟩) (.inl (by simp)) _⟩
theorem SC.start {blk cb : Nat} {w : World} {d : PA} {s : Nat} (h : PR w blk d) (k : Cnt w cb s) : SC blk cb w d s w := ⟨h, k, Upd.refl _ _⟩

set_option maxHeartbeats 4000000 in
set_option maxRecDepth 100000 in
theorem order2_any {rv : Value} {blk n : Nat} (hR : Srt rv blk n) (a b cb s : Nat) (d : PA) (w0 w : World) (h : SC blk cb w0 d s w) (hn : d.size = n) (ha : a < n) (hb : b < n) (hs : s < 4611686018427387904) :
    Calls Tryz.prog 167 #[.iface 149 rv, .int .i64 a, .int .i64 b, .pointer (some ⟨cb, 0, none⟩)] w fun e w' => e = .returned (.tuple #[.int .i64 (order2 ltO d a b s).1, .int .i64 (order2 ltO d a b s).2.1]) ∧ SC blk cb w0 d (order2 ltO d a b s).2.2 w' := by
  have mL := hR.ml
  have hm := hR.hm
  have H0 := Lib.hid h
  have HN := Lib.hid hn
  have HR := Lib.hid hR
  clear h hn hR
  cases hlv : ltO d[b]! d[a]! with
  | true =>
    have e2 : order2 ltO d a b s = (b, a, s + 1) := by simp [order2, hlv]
    have HL := Lib.hid hlv
    rw [e2]
    clear hlv e2
    go_enter Tryz.func167, Tryz.ntmps167
    go_wp2_with (go_at_call 185; refine (HR.out.lessV b a H0.out.pr HN.out hb ha HL.out rfl rfl).mono ?_; rintro e w1 ⟨rfl, hu1⟩; have H1 := H0.out.upd0 hu1; have cs := H1.ct.cell; have fs := H1.ct.free)
    go_ret2
    exact ⟨rfl, by have := H1.set (s + 1); push_cast at this ⊢; exact this⟩
  | false =>
    have e2 : order2 ltO d a b s = (a, b, s) := by simp [order2, hlv]
    have HL := Lib.hid hlv
    rw [e2]
    clear hlv e2
    go_enter Tryz.func167, Tryz.ntmps167
    go_wp2_with (go_at_call 185; refine (HR.out.lessV b a H0.out.pr HN.out hb ha HL.out rfl rfl).mono ?_; rintro e w1 ⟨rfl, hu1⟩; have H1 := H0.out.upd0 hu1)
    go_ret2
    exact ⟨rfl, H1⟩

theorem order2_lt {d : PA} {a b s n : Nat} (ha : a < n) (hb : b < n) : (order2 ltO d a b s).1 < n ∧ (order2 ltO d a b s).2.1 < n := by
  unfold order2; split <;> exact ⟨by assumption, by assumption⟩
theorem order2_s (d : PA) (a b s : Nat) : (order2 ltO d a b s).2.2 ≤ s + 1 := by
  unfold order2; split <;> simp

set_option maxHeartbeats 4000000 in
set_option maxRecDepth 100000 in
theorem median_any {rv : Value} {blk n : Nat} (hR : Srt rv blk n) (a b c cb s : Nat) (d : PA) (w0 w : World) (h : SC blk cb w0 d s w) (hn : d.size = n) (ha : a < n) (hb : b < n) (hc : c < n) (hs : s + 3 < 4611686018427387904) :
    Calls Tryz.prog 166 #[.iface 149 rv, .int .i64 a, .int .i64 b, .int .i64 c, .pointer (some ⟨cb, 0, none⟩)] w fun e w' => e = .returned (.int .i64 (median ltO d a b c s).1) ∧ SC blk cb w0 d (median ltO d a b c s).2 w' := by
  have hm := hR.hm
  have H0 := Lib.hid h
  have HN := Lib.hid hn
  have HR := Lib.hid hR
  obtain ⟨r1, hr1⟩ : ∃ r1, r1 = order2 ltO d a b s := ⟨_, rfl⟩
  obtain ⟨r2, hr2⟩ : ∃ r2, r2 = order2 ltO d r1.2.1 c r1.2.2 := ⟨_, rfl⟩
  obtain ⟨r3, hr3⟩ : ∃ r3, r3 = order2 ltO d r1.1 r2.1 r2.2.2 := ⟨_, rfl⟩
  have hM : median ltO d a b c s = (r3.2.1, r3.2.2) := by rw [hr3, hr2, hr1]; rfl
  have l1 := order2_lt (d := d) (s := s) ha hb
  rw [← hr1] at l1
  have l2 := order2_lt (d := d) (s := r1.2.2) l1.2 hc
  rw [← hr2] at l2
  have s1 := order2_s d a b s
  rw [← hr1] at s1
  have s2 := order2_s d r1.2.1 c r1.2.2
  rw [← hr2] at s2
  rw [hM]
  have c1 := order2_any hR a b cb s d w0 w h hn ha hb (by omega)
  rw [← hr1] at c1
  have C2 : Hid (∀ w, SC blk cb w0 d r1.2.2 w → Calls Tryz.prog 167 #[.iface 149 rv, .int .i64 (r1.2.1 : Nat), .int .i64 c, .pointer (some ⟨cb, 0, none⟩)] w fun e w' => e = .returned (.tuple #[.int .i64 (r2.1 : Nat), .int .i64 (r2.2.1 : Nat)]) ∧ SC blk cb w0 d r2.2.2 w') := fun w hw => by
    rw [hr2]; exact order2_any hR _ _ cb _ d w0 w hw hn l1.2 hc (by omega)
  have C3 : Hid (∀ w, SC blk cb w0 d r2.2.2 w → Calls Tryz.prog 167 #[.iface 149 rv, .int .i64 (r1.1 : Nat), .int .i64 (r2.1 : Nat), .pointer (some ⟨cb, 0, none⟩)] w fun e w' => e = .returned (.tuple #[.int .i64 (r3.1 : Nat), .int .i64 (r3.2.1 : Nat)]) ∧ SC blk cb w0 d r3.2.2 w') := fun w hw => by
    rw [hr3]; exact order2_any hR _ _ cb _ d w0 w hw hn l1.1 l2.1 (by omega)
  clear hr1 hr2 hr3 hM h hn hR l1 l2 s1 s2
  obtain ⟨x1, y1, z1⟩ := r1
  obtain ⟨x2, y2, z2⟩ := r2
  obtain ⟨x3, y3, z3⟩ := r3
  simp only [] at c1
  go_enter Tryz.func166, Tryz.ntmps166
  go_wp2_with (first
    | (go_at_call 167; with_reducible refine c1.mono ?_; rintro e w1 ⟨rfl, h1⟩)
    | (go_at_call 167; with_reducible refine (C2.out _ h1).mono ?_; rintro e w2 ⟨rfl, h2⟩)
    | (go_at_call 167; with_reducible refine (C3.out _ h2).mono ?_; rintro e w3 ⟨rfl, h3⟩))
  go_ret
  exact ⟨rfl, h3⟩

set_option maxHeartbeats 4000000 in
set_option maxRecDepth 100000 in
theorem medAdj_any {rv : Value} {blk n : Nat} (hR : Srt rv blk n) (a cb s : Nat) (d : PA) (w0 w : World) (h : SC blk cb w0 d s w) (hn : d.size = n) (ha : 1 ≤ a) (hb : a + 1 < n) (hs : s + 3 < 4611686018427387904) :
    Calls Tryz.prog 165 #[.iface 149 rv, .int .i64 a, .pointer (some ⟨cb, 0, none⟩)] w fun e w' => e = .returned (.int .i64 (medianAdjacent ltO d a s).1) ∧ SC blk cb w0 d (medianAdjacent ltO d a s).2 w' := by
  have hm := hR.hm
  obtain ⟨x, hx⟩ : ∃ x, x = a - 1 := ⟨_, rfl⟩
  obtain ⟨y, hy⟩ : ∃ y, y = a + 1 := ⟨_, rfl⟩
  have e1 : (a : Int) - 1 = x := by omega
  have e2 : (a : Int) + 1 = y := by omega
  have c1 := median_any hR x a y cb s d w0 w h hn (by omega) (by omega) (by omega) hs
  have hM : medianAdjacent ltO d a s = median ltO d x a y s := by rw [hx, hy]; rfl
  rw [hM]
  clear hx hy h hn hR hM
  go_enter Tryz.func165, Tryz.ntmps165
  go_wp2_with (go_at_call 166; with_reducible refine c1.mono ?_; rintro e w1 ⟨rfl, h1⟩)
  go_ret
  exact ⟨rfl, h1⟩

theorem SC.fresh {blk : Nat} {w : World} {d : PA} (h : PR w blk d) : SC blk w.heap.size (w.alloc (.cells #[.int .i64 0] 3)) d 0 (w.alloc (.cells #[.int .i64 0] 3)) :=
  SC.start (h.upd0 ((Upd.refl _ _).alloc _)) (Row.new w 3 [.int .i64 0])
theorem SC.back {blk cb : Nat} {w w' : World} {d : PA} {s : Nat} (h : SC blk cb (w.alloc (.cells #[.int .i64 0] 3)) d s w') (hc : cb = w.heap.size) : Upd [] w w' :=
  ((Upd.refl [] w).alloc _).step h.up fun t ht => .inr (by simp at ht; subst ht; omega)
theorem medAdj_lt {d : PA} {a s n : Nat} (ha : 1 ≤ a) (hb : a + 1 < n) : (medianAdjacent ltO d a s).1 < n ∧ (medianAdjacent ltO d a s).2 ≤ s + 3 := by
  refine ⟨?_, medianAdjacent_count ltO d a s⟩
  rcases medianAdjacent_mem ltO d a s with h | h | h <;> omega

theorem median_lt {d : PA} {a b c s : Nat} : (median ltO d a b c s).2 ≤ s + 3 := median_count ltO d a b c s

set_option maxHeartbeats 8000000 in
set_option maxRecDepth 100000 in
theorem choose_any {rv : Value} {blk n : Nat} (hR : Srt rv blk n) (a b : Nat) (d : PA) (w : World) (h : PR w blk d) (hn : d.size = n) (hab : a < b) (hb : b ≤ n) :
    Calls Tryz.prog 156 #[.iface 149 rv, .int .i64 a, .int .i64 b] w fun e w' => e = .returned (.tuple #[.int .i64 (choosePivot ltO d a b).1, .int .i64 (hintCode (choosePivot ltO d a b).2)]) ∧ Upd [] w w' := by
  have hm := hR.hm
  rw [choosePivot_eq]
  obtain ⟨I, hI⟩ : ∃ I : Nat, I = a + (b - a) / 4 * 1 := ⟨_, rfl⟩
  obtain ⟨J, hJ⟩ : ∃ J : Nat, J = a + (b - a) / 4 * 2 := ⟨_, rfl⟩
  obtain ⟨K, hK⟩ : ∃ K : Nat, K = a + (b - a) / 4 * 3 := ⟨_, rfl⟩
  have eI : ((a : Int) + ((b : Int) - (a : Int)) / 4) = (I : Int) := by omega
  have eJ : ((a : Int) + ((b : Int) - (a : Int)) / 4 * 2) = (J : Int) := by omega
  have eK : ((a : Int) + ((b : Int) - (a : Int)) / 4 * 3) = (K : Int) := by omega
  have H0 := Lib.hid h
  by_cases h8 : b - a ≥ 8
  · have h8z : (8 : Int) ≤ (b : Int) - (a : Int) := by omega
    by_cases h50 : b - a ≥ 50
    · have h50z : (50 : Int) ≤ (b : Int) - (a : Int) := by omega
      obtain ⟨r1, hr1⟩ : ∃ r1, r1 = medianAdjacent ltO d I 0 := ⟨_, rfl⟩
      obtain ⟨r2, hr2⟩ : ∃ r2, r2 = medianAdjacent ltO d J r1.2 := ⟨_, rfl⟩
      obtain ⟨r3, hr3⟩ : ∃ r3, r3 = medianAdjacent ltO d K r2.2 := ⟨_, rfl⟩
      obtain ⟨r4, hr4⟩ : ∃ r4, r4 = median ltO d r1.1 r2.1 r3.1 r3.2 := ⟨_, rfl⟩
      have hraw : rawPivot ltO d a b = r4 := by simp only [rawPivot, if_pos h8, if_pos h50, ← hI, ← hJ, ← hK, ← hr1, ← hr2, ← hr3, ← hr4]
      have m1 := medAdj_lt (d := d) (a := I) (s := 0) (n := n) (by omega) (by omega)
      rw [← hr1] at m1
      have m2 := medAdj_lt (d := d) (a := J) (s := r1.2) (n := n) (by omega) (by omega)
      rw [← hr2] at m2
      have m3 := medAdj_lt (d := d) (a := K) (s := r2.2) (n := n) (by omega) (by omega)
      rw [← hr3] at m3
      have C1 : Hid (∀ cb w0 w, SC blk cb w0 d 0 w → Calls Tryz.prog 165 #[.iface 149 rv, .int .i64 (I : Nat), .pointer (some ⟨cb, 0, none⟩)] w fun e w' => e = .returned (.int .i64 (r1.1 : Nat)) ∧ SC blk cb w0 d r1.2 w') := fun cb w0 w hw => by
        rw [hr1]; exact medAdj_any hR I cb 0 d w0 w hw hn (by omega) (by omega) (by omega)
      have C2 : Hid (∀ cb w0 w, SC blk cb w0 d r1.2 w → Calls Tryz.prog 165 #[.iface 149 rv, .int .i64 (J : Nat), .pointer (some ⟨cb, 0, none⟩)] w fun e w' => e = .returned (.int .i64 (r2.1 : Nat)) ∧ SC blk cb w0 d r2.2 w') := fun cb w0 w hw => by
        rw [hr2]; exact medAdj_any hR J cb _ d w0 w hw hn (by omega) (by omega) (by omega)
      have C3 : Hid (∀ cb w0 w, SC blk cb w0 d r2.2 w → Calls Tryz.prog 165 #[.iface 149 rv, .int .i64 (K : Nat), .pointer (some ⟨cb, 0, none⟩)] w fun e w' => e = .returned (.int .i64 (r3.1 : Nat)) ∧ SC blk cb w0 d r3.2 w') := fun cb w0 w hw => by
        rw [hr3]; exact medAdj_any hR K cb _ d w0 w hw hn (by omega) (by omega) (by omega)
      have C4 : Hid (∀ cb w0 w, SC blk cb w0 d r3.2 w → Calls Tryz.prog 166 #[.iface 149 rv, .int .i64 (r1.1 : Nat), .int .i64 (r2.1 : Nat), .int .i64 (r3.1 : Nat), .pointer (some ⟨cb, 0, none⟩)] w fun e w' => e = .returned (.int .i64 (r4.1 : Nat)) ∧ SC blk cb w0 d r4.2 w') := fun cb w0 w hw => by
        rw [hr4]; exact median_any hR _ _ _ cb _ d w0 w hw hn m1.1 m2.1 m3.1 (by omega)
      rw [hraw]
      have hlt : r4.2 ≤ r3.2 + 3 := by rw [hr4]; exact median_lt
      have hl4 : r4.2 ≤ 12 := by omega
      obtain ⟨Hc, hHc⟩ : ∃ Hc : Int, Hc = hintCode (hintOf r4.2) := ⟨_, rfl⟩
      rw [← hHc]
      have hcases : (r4.2 = 0 ∧ Hc = 1) ∨ (r4.2 = 12 ∧ Hc = 2) ∨ (r4.2 ≠ 0 ∧ r4.2 ≠ 12 ∧ Hc = 0) := by
        rw [hHc]; unfold hintOf
        by_cases z0 : r4.2 = 0
        · left; exact ⟨z0, by rw [if_pos z0]; rfl⟩
        · by_cases z1 : r4.2 = 12
          · right; left; exact ⟨z1, by rw [if_neg z0, if_pos z1]; rfl⟩
          · right; right; exact ⟨z0, z1, by rw [if_neg z0, if_neg z1]; rfl⟩
      clear hHc hraw hr1 hr2 hr3 hr4 m1 m2 m3 hlt hl4 hI hJ hK h hn hR
      obtain ⟨x1, y1⟩ := r1
      obtain ⟨x2, y2⟩ := r2
      obtain ⟨x3, y3⟩ := r3
      obtain ⟨x4, y4⟩ := r4
      simp only [] at hcases
      rcases hcases with ⟨z, rfl⟩ | ⟨z, rfl⟩ | ⟨z, z', rfl⟩
      all_goals
        first
          | (have zb : ((y4 : Int) == 0) = true := by simp [z])
          | (have zb : ((y4 : Int) == 0) = false := by simp [z])
        first
          | (have zc : ((y4 : Int) == 12) = true := by simp [z])
          | (have zc : ((y4 : Int) == 12) = false := by simp [z])
          | (have zc : ((y4 : Int) == 12) = false := beq_eq_false_iff_ne.2 (by omega))
        (try clear z')
        clear z
        go_enter Tryz.func156, Tryz.ntmps156
        go_wp2_with (first
          | (go_at_call 165; with_reducible refine (C1.out _ _ _ (SC.fresh H0.out)).mono ?_; rintro e w1 ⟨rfl, h1⟩)
          | (go_at_call 165; with_reducible refine (C2.out _ _ _ h1).mono ?_; rintro e w2 ⟨rfl, h2⟩)
          | (go_at_call 165; with_reducible refine (C3.out _ _ _ h2).mono ?_; rintro e w3 ⟨rfl, h3⟩)
          | (go_at_call 166; with_reducible refine (C4.out _ _ _ h3).mono ?_; rintro e w4 ⟨rfl, h4⟩; have c4 := h4.ct.cell))
        go_ret2
        exact ⟨rfl, h4.back rfl⟩
    · have h50z : ¬ (50 : Int) ≤ (b : Int) - (a : Int) := by omega
      obtain ⟨r4, hr4⟩ : ∃ r4, r4 = median ltO d I J K 0 := ⟨_, rfl⟩
      have hraw : rawPivot ltO d a b = r4 := by simp only [rawPivot, if_pos h8, if_neg h50, ← hI, ← hJ, ← hK, ← hr4]
      have C4 : Hid (∀ cb w0 w, SC blk cb w0 d 0 w → Calls Tryz.prog 166 #[.iface 149 rv, .int .i64 (I : Nat), .int .i64 (J : Nat), .int .i64 (K : Nat), .pointer (some ⟨cb, 0, none⟩)] w fun e w' => e = .returned (.int .i64 (r4.1 : Nat)) ∧ SC blk cb w0 d r4.2 w') := fun cb w0 w hw => by
        rw [hr4]; exact median_any hR _ _ _ cb _ d w0 w hw hn (by omega) (by omega) (by omega) (by omega)
      rw [hraw]
      obtain ⟨Hc, hHc⟩ : ∃ Hc : Int, Hc = hintCode (hintOf r4.2) := ⟨_, rfl⟩
      rw [← hHc]
      have hcases : (r4.2 = 0 ∧ Hc = 1) ∨ (r4.2 = 12 ∧ Hc = 2) ∨ (r4.2 ≠ 0 ∧ r4.2 ≠ 12 ∧ Hc = 0) := by
        rw [hHc]; unfold hintOf
        by_cases z0 : r4.2 = 0
        · left; exact ⟨z0, by rw [if_pos z0]; rfl⟩
        · by_cases z1 : r4.2 = 12
          · right; left; exact ⟨z1, by rw [if_neg z0, if_pos z1]; rfl⟩
          · right; right; exact ⟨z0, z1, by rw [if_neg z0, if_neg z1]; rfl⟩
      clear hHc hraw hr4 hI hJ hK h hn hR
      obtain ⟨x4, y4⟩ := r4
      simp only [] at hcases
      rcases hcases with ⟨z, rfl⟩ | ⟨z, rfl⟩ | ⟨z, z', rfl⟩
      all_goals
        first
          | (have zb : ((y4 : Int) == 0) = true := by simp [z])
          | (have zb : ((y4 : Int) == 0) = false := by simp [z])
        first
          | (have zc : ((y4 : Int) == 12) = true := by simp [z])
          | (have zc : ((y4 : Int) == 12) = false := by simp [z])
          | (have zc : ((y4 : Int) == 12) = false := beq_eq_false_iff_ne.2 (by omega))
        (try clear z')
        clear z
        go_enter Tryz.func156, Tryz.ntmps156
        go_wp2_with (go_at_call 166; with_reducible refine (C4.out _ _ _ (SC.fresh H0.out)).mono ?_; rintro e w4 ⟨rfl, h4⟩; have c4 := h4.ct.cell)
        go_ret2
        exact ⟨rfl, h4.back rfl⟩
  · have h8z : ¬ (8 : Int) ≤ (b : Int) - (a : Int) := by omega
    have hraw : rawPivot ltO d a b = (J, 0) := by simp only [rawPivot, if_neg h8, ← hJ]
    rw [hraw]
    have c4 : (w.alloc (.cells #[.int .i64 0] 3)).cell? ⟨w.heap.size, 0, none⟩ = some (.int .i64 0) := (SC.fresh h).ct.cell
    have hX : Upd [] w (w.alloc (.cells #[.int .i64 0] 3)) := (Upd.refl _ _).alloc _
    have HX := Lib.hid hX
    clear hX hraw hI hJ hK h hn hR
    go_enter Tryz.func156, Tryz.ntmps156
    go_wp2
    go_ret2
    exact ⟨rfl, HX.out⟩
end Go.Proofs.YtjahmnenfknjgaaGreatDoor
namespace Go.Proofs.YtjahmnenfknjgaaGreatDoor
open Go.RowKit Go.Sort

set_option maxHeartbeats 8000000 in
set_option maxRecDepth 100000 in
theorem partEq_any {rv : Value} {blk n : Nat} (hR : Srt rv blk n) (a b p : Nat) (d : PA) (w : World) (h : PR w blk d) (hn : d.size = n) (hap : a ≤ p) (hpb : p < b) (hb : b ≤ n) :
    Calls Tryz.prog 159 #[.iface 149 rv, .int .i64 a, .int .i64 b, .int .i64 p] w fun e w' => e = .returned (.int .i64 (Sort.partitionEqual ltO d a b p).1) ∧ SS blk w (Sort.partitionEqual ltO d a b p).2 w' := by
  have mL := hR.ml
  have mS := hR.ms
  have hm := hR.hm
  have H0 := Lib.hid h
  have HN := Lib.hid hn
  have HR := Lib.hid hR
  clear h hn hR
  go_enter Tryz.func159, Tryz.ntmps159
  go_wp2_with (go_at_call 186; refine (HR.out.swapV a p H0.out HN.out (by omega) (by omega) rfl rfl).mono ?_; rintro e w1 ⟨rfl, h1⟩)
  go_loopg [9, 10] (b + 1) (fun k vi vj wr => ∃ (i j : Nat) (dk : PA), vi = .int .i64 i ∧ vj = .int .i64 j ∧ a < i ∧ i ≤ j + 1 ∧ j < b ∧ Hid (dk.size = n) ∧ SS blk w dk wr ∧
      Hid (Sort.partEqLoop ltO a i j dk = Sort.partEqLoop ltO a (a + 1) (b - 1) (Sort.swp d a p)) ∧ Hid (j + 1 - i ≤ k))
  case atStart => exact ⟨a + 1, b - 1, Sort.swp d a p, by go_num, by go_num, by omega, by omega, by omega, by show _ = _; rw [size_swp]; exact HN.out, h1, rfl, by show _ ≤ _; omega⟩
  case round =>
    clear h1
    obtain ⟨i, j, dk, rfl, rfl, hai, hij, hjb, hs, hS, AE, hk⟩ := hrel
    go_wp2
    go_loopg [9] (j + 2) (fun k vi w1 => ∃ (i' : Nat), vi = .int .i64 i' ∧ i ≤ i' ∧ i' ≤ j + 1 ∧ SS blk w dk w1 ∧ Hid (Sort.scanUp (fun x => !ltO dk[a]! x) dk j i' = Sort.scanUp (fun x => !ltO dk[a]! x) dk j i) ∧ Hid (j + 1 - i' ≤ k))
    case atStart => exact ⟨i, rfl, Nat.le_refl _, hij, hS, rfl, by show _ ≤ _; omega⟩
    case round =>
      clear hS
      obtain ⟨i', rfl, hii, hij', hS, hsc, hk1⟩ := hrel
      by_cases hle : i' ≤ j
      · cases hlv : ltO dk[a]! dk[i']! with
        | false =>
          have HV := Lib.hid hlv
          have HG : Hid (Sort.scanUp (fun x => !ltO dk[a]! x) dk j (i' + 1) = Sort.scanUp (fun x => !ltO dk[a]! x) dk j i) := (scanUp_go (fun x => !ltO dk[a]! x) dk j i' hle (by simp [hlv])).symm.trans hsc.out
          clear hlv
          go_wp2_with (go_at_call 185; refine (HR.out.lessV a i' hS.pr hs.out (by omega) (by omega) HV.out rfl rfl).mono ?_; rintro e w1 ⟨rfl, hu1⟩)
          go_roundg (j + 1 - (i' + 1))
          case measure => have := hk1.out; omega
          case rel => exact ⟨i' + 1, by go_num, by omega, by omega, hS.upd0 hu1, HG, Nat.le_refl _⟩
        | true =>
          have HV := Lib.hid hlv
          have HI : Hid (i' = Sort.scanUp (fun x => !ltO dk[a]! x) dk j i) := (scanUp_end (fun x => !ltO dk[a]! x) dk j i' (Or.inr (by simp [hlv]))).symm.trans hsc.out
          clear hlv hsc
          go_wp2_with (go_at_call 185; refine (HR.out.lessV a i' hS.pr hs.out (by omega) (by omega) HV.out rfl rfl).mono ?_; rintro e w1 ⟨rfl, hu1⟩)
          have hS1 := hS.upd0 hu1
          clear hS hu1
          go_loopg [10] (j + 2) (fun k vj w2 => ∃ (j' : Nat), vj = .int .i64 j' ∧ j' ≤ j ∧ i' ≤ j' + 1 ∧ SS blk w dk w2 ∧ Hid (Sort.scanDown (fun x => ltO dk[a]! x) dk i' j' = Sort.scanDown (fun x => ltO dk[a]! x) dk i' j) ∧ Hid (j' ≤ k))
          case atStart => exact ⟨j, rfl, Nat.le_refl _, hij', hS1, rfl, by show _ ≤ _; omega⟩
          case round =>
            clear hS1
            obtain ⟨j', rfl, hjj, hij2, hS, hsd, hk2⟩ := hrel
            by_cases hle2 : i' ≤ j'
            · cases hlv2 : ltO dk[a]! dk[j']! with
              | true =>
                have HV2 := Lib.hid hlv2
                have HG : Hid (Sort.scanDown (fun x => ltO dk[a]! x) dk i' (j' - 1) = Sort.scanDown (fun x => ltO dk[a]! x) dk i' j) := (scanDown_go (fun x => ltO dk[a]! x) dk i' j' hle2 (by omega) hlv2).symm.trans hsd.out
                clear hlv2
                go_wp2_with (go_at_call 185; refine (HR.out.lessV a j' hS.pr hs.out (by omega) (by omega) HV2.out rfl rfl).mono ?_; rintro e w2 ⟨rfl, hu2⟩)
                go_roundg (j' - 1)
                case measure => have := hk2.out; omega
                case rel => exact ⟨j' - 1, by go_num, by omega, by omega, hS.upd0 hu2, HG, Nat.le_refl _⟩
              | false =>
                have HV2 := Lib.hid hlv2
                have HJ : Hid (j' = Sort.scanDown (fun x => ltO dk[a]! x) dk i' j) := (scanDown_end (fun x => ltO dk[a]! x) dk i' j' (Or.inr hlv2)).symm.trans hsd.out
                have hlt3 := scans_lt ltO a i j dk (by omega) HI.out HJ.out hle2
                have HG : Hid (Sort.partEqLoop ltO a (i' + 1) (j' - 1) (Sort.swp dk i' j') = Sort.partEqLoop ltO a (a + 1) (b - 1) (Sort.swp d a p)) := by show _ = _; rw [← AE.out]; exact (partEq_go ltO a i j dk HI.out HJ.out (by omega)).symm
                clear hlv2 hsd
                go_wp2_with (first
                  | (go_at_call 185; refine (HR.out.lessV a j' hS.pr hs.out (by omega) (by omega) HV2.out rfl rfl).mono ?_; rintro e w2 ⟨rfl, hu2⟩; have hS2 := hS.upd0 hu2)
                  | (go_at_call 186; refine (HR.out.swapV i' j' hS2.pr hs.out (by omega) (by omega) rfl rfl).mono ?_; rintro e w3 ⟨rfl, hS3⟩))
                go_roundg (j' - 1 + 1 - (i' + 1))
                case measure => have := hk.out; omega
                case rel => exact ⟨i' + 1, j' - 1, Sort.swp dk i' j', by go_num, by go_num, by omega, by omega, by omega, by show _ = _; rw [size_swp]; exact hs.out, hS2.to hS3, HG, Nat.le_refl _⟩
            · have HJ : Hid (j' = Sort.scanDown (fun x => ltO dk[a]! x) dk i' j) := (scanDown_end (fun x => ltO dk[a]! x) dk i' j' (Or.inl hle2)).symm.trans hsd.out
              have HE : Hid (Sort.partitionEqual ltO d a b p = (i', dk)) := by show _ = _; unfold Sort.partitionEqual; rw [← AE.out, partEq_break ltO a i j dk HI.out HJ.out (by omega)]
              clear hsd
              go_wp2
              go_ret
              rw [HE.out]
              exact ⟨rfl, hS⟩
      · have HI : Hid (i' = Sort.scanUp (fun x => !ltO dk[a]! x) dk j i) := (scanUp_end (fun x => !ltO dk[a]! x) dk j i' (Or.inl hle)).symm.trans hsc.out
        clear hsc
        go_wp2
        go_loopg [10] (j + 2) (fun k vj w2 => ∃ (j' : Nat), vj = .int .i64 j' ∧ j' ≤ j ∧ i' ≤ j' + 1 ∧ SS blk w dk w2 ∧ Hid (Sort.scanDown (fun x => ltO dk[a]! x) dk i' j' = Sort.scanDown (fun x => ltO dk[a]! x) dk i' j) ∧ Hid (j' ≤ k))
        case atStart => exact ⟨j, rfl, Nat.le_refl _, hij', hS, rfl, by show _ ≤ _; omega⟩
        case round =>
          clear hS
          obtain ⟨j', rfl, hjj, hij2, hS, hsd, hk2⟩ := hrel
          have hle2 : ¬ i' ≤ j' := by omega
          have HJ : Hid (j' = Sort.scanDown (fun x => ltO dk[a]! x) dk i' j) := (scanDown_end (fun x => ltO dk[a]! x) dk i' j' (Or.inl hle2)).symm.trans hsd.out
          have HE : Hid (Sort.partitionEqual ltO d a b p = (i', dk)) := by show _ = _; unfold Sort.partitionEqual; rw [← AE.out, partEq_break ltO a i j dk HI.out HJ.out (by omega)]
          clear hsd
          go_wp2
          go_ret
          rw [HE.out]
          exact ⟨rfl, hS⟩
end Go.Proofs.YtjahmnenfknjgaaGreatDoor
namespace Go.Proofs.YtjahmnenfknjgaaGreatDoor
open Go.RowKit Go.Sort

set_option maxHeartbeats 16000000 in
set_option maxRecDepth 100000 in
theorem part_any {rv : Value} {blk n : Nat} (hR : Srt rv blk n) (a b p : Nat) (d : PA) (w : World) (h : PR w blk d) (hn : d.size = n) (hap : a ≤ p) (hpb : p < b) (hb : b ≤ n) :
    Calls Tryz.prog 160 #[.iface 149 rv, .int .i64 a, .int .i64 b, .int .i64 p] w fun e w' => e = .returned (.tuple #[.int .i64 (Sort.partition ltO d a b p).1, .bool (Sort.partition ltO d a b p).2.1]) ∧ SS blk w (Sort.partition ltO d a b p).2.2 w' := by
  have mL := hR.ml
  have mS := hR.ms
  have hm := hR.hm
  have H0 := Lib.hid h
  have HN := Lib.hid hn
  have HR := Lib.hid hR
  obtain ⟨i, hi⟩ : ∃ i : Nat, i = a + 1 := ⟨_, rfl⟩
  obtain ⟨j, hj⟩ : ∃ j : Nat, j = b - 1 := ⟨_, rfl⟩
  obtain ⟨dk, hdk⟩ : ∃ dk : PA, dk = Sort.swp d a p := ⟨_, rfl⟩
  have hs : Hid (dk.size = n) := by show _ = _; rw [hdk, size_swp]; exact hn
  have hai : a < i := by omega
  have hij : i ≤ j + 1 := by omega
  have hjb : j < b := by omega
  have e1 : (a : Int) + 1 = i := by omega
  have e2 : (b : Int) - 1 = j := by omega
  have Hi := Lib.hid hi
  have Hj := Lib.hid hj
  have Hdk := Lib.hid hdk
  have HSW : Hid (∀ w, PR w blk d → Calls Tryz.prog 186 #[rv, .int .i64 a, .int .i64 p] w fun e w' => e = .returned (.tuple #[]) ∧ SS blk w dk w') := fun w hw => by rw [hdk]; exact hR.swapV a p hw hn (by omega) (by omega) rfl rfl
  clear h hn hR hi hj hdk
  go_enter Tryz.func160, Tryz.ntmps160
  go_wp2_with (go_at_call 186; refine (HSW.out _ H0.out).mono ?_; rintro e w1 ⟨rfl, hS⟩)
  go_loopg [10] (j + 2) (fun k vi w1 => ∃ (i1 : Nat), vi = .int .i64 i1 ∧ i ≤ i1 ∧ i1 ≤ j + 1 ∧ SS blk w dk w1 ∧ Hid (Sort.scanUp (fun x => ltO x dk[a]!) dk j i1 = Sort.scanUp (fun x => ltO x dk[a]!) dk j i) ∧ Hid (j + 1 - i1 ≤ k))
  case atStart => exact ⟨i, rfl, Nat.le_refl _, by omega, hS, rfl, by show _ ≤ _; omega⟩
  case round =>
    clear hS
    obtain ⟨i1, rfl, hii1, hij1, hS, hsc, hk11⟩ := hrel
    by_cases hle : i1 ≤ j
    · cases hlv : ltO dk[i1]! dk[a]! with
      | true =>
        have HV := Lib.hid hlv
        have HG : Hid (Sort.scanUp (fun x => ltO x dk[a]!) dk j (i1 + 1) = Sort.scanUp (fun x => ltO x dk[a]!) dk j i) := (scanUp_go (fun x => ltO x dk[a]!) dk j i1 hle (by simp [hlv])).symm.trans hsc.out
        clear hlv
        go_wp2_with (go_at_call 185; refine (HR.out.lessV i1 a hS.pr hs.out (by omega) (by omega) HV.out rfl rfl).mono ?_; rintro e w1 ⟨rfl, hu1⟩)
        go_roundg (j + 1 - (i1 + 1))
        case measure => have := hk11.out; omega
        case rel => exact ⟨i1 + 1, by go_num, by omega, by omega, hS.upd0 hu1, HG, Nat.le_refl _⟩
      | false =>
        have HV := Lib.hid hlv
        have HI1 : Hid (i1 = Sort.scanUp (fun x => ltO x dk[a]!) dk j i) := (scanUp_end (fun x => ltO x dk[a]!) dk j i1 (Or.inr (by simp [hlv]))).symm.trans hsc.out
        clear hlv hsc
        go_wp2_with (go_at_call 185; refine (HR.out.lessV i1 a hS.pr hs.out (by omega) (by omega) HV.out rfl rfl).mono ?_; rintro e w1 ⟨rfl, hu1⟩)
        have hS1 := hS.upd0 hu1
        clear hS hu1
        go_loopg [11] (j + 2) (fun k vj w2 => ∃ (j1 : Nat), vj = .int .i64 j1 ∧ j1 ≤ j ∧ i1 ≤ j1 + 1 ∧ SS blk w dk w2 ∧ Hid (Sort.scanDown (fun x => !ltO x dk[a]!) dk i1 j1 = Sort.scanDown (fun x => !ltO x dk[a]!) dk i1 j) ∧ Hid (j1 ≤ k))
        case atStart => exact ⟨j, rfl, Nat.le_refl _, by omega, hS1, rfl, by show _ ≤ _; omega⟩
        case round =>
          clear hS1
          obtain ⟨j1, rfl, hjj1, hij21, hS, hsd, hk21⟩ := hrel
          by_cases hle2 : i1 ≤ j1
          · cases hlv2 : ltO dk[j1]! dk[a]! with
            | false =>
              have HV2 := Lib.hid hlv2
              have HG : Hid (Sort.scanDown (fun x => !ltO x dk[a]!) dk i1 (j1 - 1) = Sort.scanDown (fun x => !ltO x dk[a]!) dk i1 j) := (scanDown_go (fun x => !ltO x dk[a]!) dk i1 j1 hle2 (by omega) (by simp [hlv2])).symm.trans hsd.out
              clear hlv2
              go_wp2_with (go_at_call 185; refine (HR.out.lessV j1 a hS.pr hs.out (by omega) (by omega) HV2.out rfl rfl).mono ?_; rintro e w2 ⟨rfl, hu2⟩)
              go_roundg (j1 - 1)
              case measure => have := hk21.out; omega
              case rel => exact ⟨j1 - 1, by go_num, by omega, by omega, hS.upd0 hu2, HG, Nat.le_refl _⟩
            | true =>
              have HV2 := Lib.hid hlv2
              have HJ1 : Hid (j1 = Sort.scanDown (fun x => !ltO x dk[a]!) dk i1 j) := (scanDown_end (fun x => !ltO x dk[a]!) dk i1 j1 (Or.inr (by simp [hlv2]))).symm.trans hsd.out
              have hlt31 := part_scans_lt ltO a i j dk (by omega) HI1.out HJ1.out hle2
              clear hlv2 hsd
              have HE : Hid (Sort.partition ltO d a b p = ((Sort.partLoop ltO a (i1 + 1) (j1 - 1) (Sort.swp dk i1 j1)).1, false, Sort.swp (Sort.partLoop ltO a (i1 + 1) (j1 - 1) (Sort.swp dk i1 j1)).2 (Sort.partLoop ltO a (i1 + 1) (j1 - 1) (Sort.swp dk i1 j1)).1 a)) := part_first_go ltO d a b p Hi.out Hj.out Hdk.out HI1.out HJ1.out (by omega)
              go_wp2_with (first
                | (go_at_call 185; refine (HR.out.lessV j1 a hS.pr hs.out (by omega) (by omega) HV2.out rfl rfl).mono ?_; rintro e w2 ⟨rfl, hu2⟩; have hS2 := hS.upd0 hu2)
                | (go_at_call 186; refine (HR.out.swapV i1 j1 hS2.pr hs.out (by omega) (by omega) rfl rfl).mono ?_; rintro e w3 ⟨rfl, hS3⟩))
              have hS4 := hS2.to hS3
              clear hS hS2 hS3 hu2
              go_loopg [10, 11] (b + 1) (fun k vi vj wr => ∃ (iL jL : Nat) (dl : PA), vi = .int .i64 iL ∧ vj = .int .i64 jL ∧ a < iL ∧ iL ≤ jL + 1 ∧ jL < b ∧ Hid (dl.size = n) ∧ SS blk w dl wr ∧
                  Hid (Sort.partLoop ltO a iL jL dl = Sort.partLoop ltO a (i1 + 1) (j1 - 1) (Sort.swp dk i1 j1)) ∧ Hid (jL + 1 - iL ≤ k))
              case atStart => exact ⟨i1 + 1, j1 - 1, Sort.swp dk i1 j1, by go_num, by go_num, by omega, by omega, by omega, by show _ = _; rw [size_swp]; exact hs.out, hS4, rfl, by show _ ≤ _; omega⟩
              case round =>
                clear hS4
                obtain ⟨iL, jL, dl, rfl, rfl, haiL, hijL, hjbL, hsL, hS, AE, hkL⟩ := hrel
                go_wp2
                go_loopg [10] (jL + 2) (fun k vi w1 => ∃ (i2 : Nat), vi = .int .i64 i2 ∧ iL ≤ i2 ∧ i2 ≤ jL + 1 ∧ SS blk w dl w1 ∧ Hid (Sort.scanUp (fun x => ltO x dl[a]!) dl jL i2 = Sort.scanUp (fun x => ltO x dl[a]!) dl jL iL) ∧ Hid (jL + 1 - i2 ≤ k))
                case atStart => exact ⟨iL, rfl, Nat.le_refl _, by omega, hS, rfl, by show _ ≤ _; omega⟩
                case round =>
                  clear hS
                  obtain ⟨i2, rfl, hii2, hij2, hS, hsc, hk12⟩ := hrel
                  by_cases hle : i2 ≤ jL
                  · cases hlv : ltO dl[i2]! dl[a]! with
                    | true =>
                      have HV := Lib.hid hlv
                      have HG : Hid (Sort.scanUp (fun x => ltO x dl[a]!) dl jL (i2 + 1) = Sort.scanUp (fun x => ltO x dl[a]!) dl jL iL) := (scanUp_go (fun x => ltO x dl[a]!) dl jL i2 hle (by simp [hlv])).symm.trans hsc.out
                      clear hlv
                      go_wp2_with (go_at_call 185; refine (HR.out.lessV i2 a hS.pr hsL.out (by omega) (by omega) HV.out rfl rfl).mono ?_; rintro e w1 ⟨rfl, hu1⟩)
                      go_roundg (jL + 1 - (i2 + 1))
                      case measure => have := hk12.out; omega
                      case rel => exact ⟨i2 + 1, by go_num, by omega, by omega, hS.upd0 hu1, HG, Nat.le_refl _⟩
                    | false =>
                      have HV := Lib.hid hlv
                      have HI2 : Hid (i2 = Sort.scanUp (fun x => ltO x dl[a]!) dl jL iL) := (scanUp_end (fun x => ltO x dl[a]!) dl jL i2 (Or.inr (by simp [hlv]))).symm.trans hsc.out
                      clear hlv hsc
                      go_wp2_with (go_at_call 185; refine (HR.out.lessV i2 a hS.pr hsL.out (by omega) (by omega) HV.out rfl rfl).mono ?_; rintro e w1 ⟨rfl, hu1⟩)
                      have hS1 := hS.upd0 hu1
                      clear hS hu1
                      go_loopg [11] (jL + 2) (fun k vj w2 => ∃ (j2 : Nat), vj = .int .i64 j2 ∧ j2 ≤ jL ∧ i2 ≤ j2 + 1 ∧ SS blk w dl w2 ∧ Hid (Sort.scanDown (fun x => !ltO x dl[a]!) dl i2 j2 = Sort.scanDown (fun x => !ltO x dl[a]!) dl i2 jL) ∧ Hid (j2 ≤ k))
                      case atStart => exact ⟨jL, rfl, Nat.le_refl _, by omega, hS1, rfl, by show _ ≤ _; omega⟩
                      case round =>
                        clear hS1
                        obtain ⟨j2, rfl, hjj2, hij22, hS, hsd, hk22⟩ := hrel
                        by_cases hle2 : i2 ≤ j2
                        · cases hlv2 : ltO dl[j2]! dl[a]! with
                          | false =>
                            have HV2 := Lib.hid hlv2
                            have HG : Hid (Sort.scanDown (fun x => !ltO x dl[a]!) dl i2 (j2 - 1) = Sort.scanDown (fun x => !ltO x dl[a]!) dl i2 jL) := (scanDown_go (fun x => !ltO x dl[a]!) dl i2 j2 hle2 (by omega) (by simp [hlv2])).symm.trans hsd.out
                            clear hlv2
                            go_wp2_with (go_at_call 185; refine (HR.out.lessV j2 a hS.pr hsL.out (by omega) (by omega) HV2.out rfl rfl).mono ?_; rintro e w2 ⟨rfl, hu2⟩)
                            go_roundg (j2 - 1)
                            case measure => have := hk22.out; omega
                            case rel => exact ⟨j2 - 1, by go_num, by omega, by omega, hS.upd0 hu2, HG, Nat.le_refl _⟩
                          | true =>
                            have HV2 := Lib.hid hlv2
                            have HJ2 : Hid (j2 = Sort.scanDown (fun x => !ltO x dl[a]!) dl i2 jL) := (scanDown_end (fun x => !ltO x dl[a]!) dl i2 j2 (Or.inr (by simp [hlv2]))).symm.trans hsd.out
                            have hlt32 := part_scans_lt ltO a iL jL dl (by omega) HI2.out HJ2.out hle2
                            clear hlv2 hsd
                            have HG : Hid (Sort.partLoop ltO a (i2 + 1) (j2 - 1) (Sort.swp dl i2 j2) = Sort.partLoop ltO a (i1 + 1) (j1 - 1) (Sort.swp dk i1 j1)) := by show _ = _; rw [← AE.out]; exact (part_go ltO a iL jL dl HI2.out HJ2.out (by omega)).symm
                            go_wp2_with (first
                              | (go_at_call 185; refine (HR.out.lessV j2 a hS.pr hsL.out (by omega) (by omega) HV2.out rfl rfl).mono ?_; rintro e w2 ⟨rfl, hu2⟩; have hS2 := hS.upd0 hu2)
                              | (go_at_call 186; refine (HR.out.swapV i2 j2 hS2.pr hsL.out (by omega) (by omega) rfl rfl).mono ?_; rintro e w3 ⟨rfl, hS3⟩))
                            go_roundg (j2 - 1 + 1 - (i2 + 1))
                            case measure => have := hkL.out; omega
                            case rel => exact ⟨i2 + 1, j2 - 1, Sort.swp dl i2 j2, by go_num, by go_num, by omega, by omega, by omega, by show _ = _; rw [size_swp]; exact hsL.out, hS2.to hS3, HG, Nat.le_refl _⟩
                        · have HJ2 : Hid (j2 = Sort.scanDown (fun x => !ltO x dl[a]!) dl i2 jL) := (scanDown_end (fun x => !ltO x dl[a]!) dl i2 j2 (Or.inl hle2)).symm.trans hsd.out
                          clear hsd
                          have HE2 : Hid (Sort.partition ltO d a b p = (j2, false, Sort.swp dl j2 a)) := by show _ = _; rw [HE.out, ← AE.out, part_break ltO a iL jL dl HI2.out HJ2.out (by omega)]
                          go_wp2_with (go_at_call 186; refine (HR.out.swapV j2 a hS.pr hsL.out (by omega) (by omega) rfl rfl).mono ?_; rintro e w3 ⟨rfl, hS3⟩)
                          rw [HE2.out]
                          go_ret2
                          exact ⟨rfl, hS.to hS3⟩
                  · have HI2 : Hid (i2 = Sort.scanUp (fun x => ltO x dl[a]!) dl jL iL) := (scanUp_end (fun x => ltO x dl[a]!) dl jL i2 (Or.inl hle)).symm.trans hsc.out
                    clear hsc
                    go_wp2
                    go_loopg [11] (jL + 2) (fun k vj w2 => ∃ (j2 : Nat), vj = .int .i64 j2 ∧ j2 ≤ jL ∧ i2 ≤ j2 + 1 ∧ SS blk w dl w2 ∧ Hid (Sort.scanDown (fun x => !ltO x dl[a]!) dl i2 j2 = Sort.scanDown (fun x => !ltO x dl[a]!) dl i2 jL) ∧ Hid (j2 ≤ k))
                    case atStart => exact ⟨jL, rfl, Nat.le_refl _, by omega, hS, rfl, by show _ ≤ _; omega⟩
                    case round =>
                      clear hS
                      obtain ⟨j2, rfl, hjj2, hij22, hS, hsd, hk22⟩ := hrel
                      have hle2 : ¬ i2 ≤ j2 := by omega
                      · have HJ2 : Hid (j2 = Sort.scanDown (fun x => !ltO x dl[a]!) dl i2 jL) := (scanDown_end (fun x => !ltO x dl[a]!) dl i2 j2 (Or.inl hle2)).symm.trans hsd.out
                        clear hsd
                        have HE2 : Hid (Sort.partition ltO d a b p = (j2, false, Sort.swp dl j2 a)) := by show _ = _; rw [HE.out, ← AE.out, part_break ltO a iL jL dl HI2.out HJ2.out (by omega)]
                        go_wp2_with (go_at_call 186; refine (HR.out.swapV j2 a hS.pr hsL.out (by omega) (by omega) rfl rfl).mono ?_; rintro e w3 ⟨rfl, hS3⟩)
                        rw [HE2.out]
                        go_ret2
                        exact ⟨rfl, hS.to hS3⟩
          · have HJ1 : Hid (j1 = Sort.scanDown (fun x => !ltO x dk[a]!) dk i1 j) := (scanDown_end (fun x => !ltO x dk[a]!) dk i1 j1 (Or.inl hle2)).symm.trans hsd.out
            clear hsd
            have HE : Hid (Sort.partition ltO d a b p = (j1, true, Sort.swp dk j1 a)) := part_first_break ltO d a b p Hi.out Hj.out Hdk.out HI1.out HJ1.out (by omega)
            go_wp2_with (go_at_call 186; refine (HR.out.swapV j1 a hS.pr hs.out (by omega) (by omega) rfl rfl).mono ?_; rintro e w3 ⟨rfl, hS3⟩)
            rw [HE.out]
            go_ret2
            exact ⟨rfl, hS.to hS3⟩
    · have HI1 : Hid (i1 = Sort.scanUp (fun x => ltO x dk[a]!) dk j i) := (scanUp_end (fun x => ltO x dk[a]!) dk j i1 (Or.inl hle)).symm.trans hsc.out
      clear hsc
      go_wp2
      go_loopg [11] (j + 2) (fun k vj w2 => ∃ (j1 : Nat), vj = .int .i64 j1 ∧ j1 ≤ j ∧ i1 ≤ j1 + 1 ∧ SS blk w dk w2 ∧ Hid (Sort.scanDown (fun x => !ltO x dk[a]!) dk i1 j1 = Sort.scanDown (fun x => !ltO x dk[a]!) dk i1 j) ∧ Hid (j1 ≤ k))
      case atStart => exact ⟨j, rfl, Nat.le_refl _, by omega, hS, rfl, by show _ ≤ _; omega⟩
      case round =>
        clear hS
        obtain ⟨j1, rfl, hjj1, hij21, hS, hsd, hk21⟩ := hrel
        have hle2 : ¬ i1 ≤ j1 := by omega
        · have HJ1 : Hid (j1 = Sort.scanDown (fun x => !ltO x dk[a]!) dk i1 j) := (scanDown_end (fun x => !ltO x dk[a]!) dk i1 j1 (Or.inl hle2)).symm.trans hsd.out
          clear hsd
          have HE : Hid (Sort.partition ltO d a b p = (j1, true, Sort.swp dk j1 a)) := part_first_break ltO d a b p Hi.out Hj.out Hdk.out HI1.out HJ1.out (by omega)
          go_wp2_with (go_at_call 186; refine (HR.out.swapV j1 a hS.pr hs.out (by omega) (by omega) rfl rfl).mono ?_; rintro e w3 ⟨rfl, hS3⟩)
          rw [HE.out]
          go_ret2
          exact ⟨rfl, hS.to hS3⟩
end Go.Proofs.YtjahmnenfknjgaaGreatDoor
