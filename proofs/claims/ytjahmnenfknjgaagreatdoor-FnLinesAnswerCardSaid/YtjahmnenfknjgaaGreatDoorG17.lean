/- Pairs of brackets in memory; the methods Len, Less, Swap of bracketPairs; sort's insertionSort and reverseRange, each by its contract. -/
import Derived.Test.YtjahmnenfknjgaaGreatDoorG1
import Derived.Sort.WalkC4
import Derived.Sort.WalkA6
import Derived.Sort.AssemblyPlain
import Derived.Sort.WalkB3
import Derived.Sort.Walk7
import Derived.Lib.BitFns
set_option linter.unusedVariables false
set_option linter.unusedSimpArgs false
namespace Go.Proofs.YtjahmnenfknjgaaGreatDoor
open Go.RowKit Go.Sort

abbrev PA := Array (Nat × Nat)
def pcs (l : List (Nat × Nat)) : List Value := l.flatMap fun p => [.int .i64 p.1, .int .i64 p.2]
theorem pcs_length (l : List (Nat × Nat)) : (pcs l).length = l.length * 2 := by
  induction l with
  | nil => rfl
  | cons e l ih => simp only [pcs, List.flatMap_cons, List.length_append, List.length_cons, List.length_nil] at ih ⊢; omega
theorem pcs_append (l m : List (Nat × Nat)) : pcs (l ++ m) = pcs l ++ pcs m := by simp [pcs]
theorem pcs_set : ∀ (l : List (Nat × Nat)) (i : Nat) (p : Nat × Nat), i < l.length → ((pcs l).set (i * 2) (.int .i64 p.1)).set (i * 2 + 1) (.int .i64 p.2) = pcs (l.set i p)
  | [], i, p, h => by simp at h
  | q :: l, 0, p, h => by simp [pcs]
  | q :: l, i + 1, p, h => by
    have ih := pcs_set l i p (by simpa using h)
    have e : pcs (q :: l) = .int .i64 q.1 :: .int .i64 q.2 :: pcs l := rfl
    rw [e, show (i + 1) * 2 = i * 2 + 1 + 1 by omega, List.set_cons_succ, List.set_cons_succ, List.set_cons_succ, List.set_cons_succ, ih]
    rfl
theorem pcs_get : ∀ (l : List (Nat × Nat)) (i : Nat), i < l.length → (pcs l)[i * 2]? = some (.int .i64 (l.getD i default).1) ∧ (pcs l)[i * 2 + 1]? = some (.int .i64 (l.getD i default).2)
  | [], i, h => by simp at h
  | q :: l, 0, h => by simp [pcs]
  | q :: l, i + 1, h => by
    have ih := pcs_get l i (by simpa using h)
    have e : pcs (q :: l) = .int .i64 q.1 :: .int .i64 q.2 :: pcs l := rfl
    rw [e, show (i + 1) * 2 = i * 2 + 1 + 1 by omega, List.getElem?_cons_succ, List.getElem?_cons_succ, List.getElem?_cons_succ, List.getElem?_cons_succ]
    exact ih
/-- How many cells a block has. -/
def csz (w : World) (g : Nat) : Option Nat := match w.heap[g]? with | some (.cells a _ _) => some a.size | _ => none
theorem csz_block {w w' : World} {g : Nat} (h : w'.heap[g]? = w.heap[g]?) : csz w' g = csz w g := by unfold csz; rw [h]
theorem Row.csz_set {w : World} {g : Nat} {ty : TypeId} {vs : List Value} (h : Row w g ty vs) (j : Nat) (u : Value) : csz (w.setCell ⟨g, j, none⟩ u) g = csz w g := by
  obtain ⟨r, h⟩ := h
  unfold csz
  rw [heap_setCell_same w g j _ ty u h, h]
  simp
/-- The i-th pair's places, as words that simp leaves alone. -/
def po (d : PA) (i : Nat) : Nat := (d[i]!).1
def pc (d : PA) (i : Nat) : Nat := (d[i]!).2
def PR (w : World) (blk : Nat) (d : PA) : Prop := Row w blk 179 (pcs d.toList)
theorem getD_toList (d : PA) (i : Nat) : d.toList.getD i default = d[i]! := by
  rw [getElem!_def, List.getD_eq_getElem?_getD, Array.getElem?_toList]
  cases d[i]? <;> rfl
theorem PR.c0 {w : World} {blk : Nat} {d : PA} (h : PR w blk d) (i : Nat) (hi : i < d.size) : w.cell? ⟨blk, i * 2, none⟩ = some (.int .i64 (po d i)) := by
  have h1 := (pcs_get d.toList i (by simpa using hi)).1
  have h2 := Row.cell h (i * 2) (by rw [pcs_length]; simp; omega)
  rw [h2, ← List.getElem?_eq_getElem, h1, getD_toList]; rfl
theorem PR.c1 {w : World} {blk : Nat} {d : PA} (h : PR w blk d) (i : Nat) (hi : i < d.size) : w.cell? ⟨blk, i * 2 + 1, none⟩ = some (.int .i64 (pc d i)) := by
  have h1 := (pcs_get d.toList i (by simpa using hi)).2
  have h2 := Row.cell h (i * 2 + 1) (by rw [pcs_length]; simp; omega)
  rw [h2, ← List.getElem?_eq_getElem, h1, getD_toList]; rfl
theorem PR.upd {S : List Nat} {w w' : World} {blk : Nat} {d : PA} (h : PR w blk d) (hu : Upd S w w') (hn : blk ∉ S) : PR w' blk d := Row.upd h hu hn
theorem PR.upd0 {w w' : World} {blk : Nat} {d : PA} (h : PR w blk d) (hu : Upd [] w w') : PR w' blk d := Row.upd h hu (by simp)
theorem PR.lt {w : World} {blk : Nat} {d : PA} (h : PR w blk d) : blk < w.heap.size := Row.lt h
theorem PR.setP {w : World} {blk : Nat} {d : PA} (h : PR w blk d) (i : Nat) (p : Nat × Nat) (hi : i < d.size) : PR ((w.setCell ⟨blk, i * 2, none⟩ (.int .i64 p.1)).setCell ⟨blk, i * 2 + 1, none⟩ (.int .i64 p.2)) blk (d.setIfInBounds i p) := by
  have h1 := Row.set h (i * 2) (.int .i64 p.1) (by rw [pcs_length]; simp; omega)
  have h2 := Row.set h1 (i * 2 + 1) (.int .i64 p.2) (by rw [List.length_set, pcs_length]; simp; omega)
  rw [pcs_set _ _ _ (by simpa using hi)] at h2
  show Row _ _ _ _
  rw [Array.toList_setIfInBounds]; exact h2
theorem PR.swap {w : World} {blk : Nat} {d : PA} (h : PR w blk d) (i j : Nat) (hi : i < d.size) (hj : j < d.size) :
    PR ((((w.setCell ⟨blk, i * 2, none⟩ (.int .i64 (po d j))).setCell ⟨blk, i * 2 + 1, none⟩ (.int .i64 (pc d j))).setCell ⟨blk, j * 2, none⟩ (.int .i64 (po d i))).setCell ⟨blk, j * 2 + 1, none⟩ (.int .i64 (pc d i))) blk (swp d i j) := by
  have h1 := h.setP i d[j]! hi
  exact h1.setP j d[i]! (by simpa using hj)
theorem PR.swap_sz {w : World} {blk : Nat} {d : PA} (h : PR w blk d) (i j : Nat) (hi : i < d.size) (hj : j < d.size) :
    csz ((((w.setCell ⟨blk, i * 2, none⟩ (.int .i64 (po d j))).setCell ⟨blk, i * 2 + 1, none⟩ (.int .i64 (pc d j))).setCell ⟨blk, j * 2, none⟩ (.int .i64 (po d i))).setCell ⟨blk, j * 2 + 1, none⟩ (.int .i64 (pc d i))) blk = csz w blk := by
  have h1 := Row.set h (i * 2) (.int .i64 (po d j)) (by rw [pcs_length]; simp; omega)
  have h2 := h.setP i d[j]! hi
  have h3 := Row.set h2 (j * 2) (.int .i64 (po d i)) (by rw [pcs_length]; simp; omega)
  refine (Row.csz_set h3 _ _).trans ((Row.csz_set h2 _ _).trans ((Row.csz_set h1 _ _).trans (Row.csz_set h _ _)))
/-- The row d, all else but it as in w0; the block as long as it was. -/
structure SS (blk : Nat) (w0 : World) (d : PA) (w : World) : Prop where
  pr : PR w blk d
  up : Upd [blk] w0 w
  sz : csz w blk = csz w0 blk
theorem SS.start {blk : Nat} {w : World} {d : PA} (h : PR w blk d) : SS blk w d w := ⟨h, Upd.refl _ _, rfl⟩
theorem SS.to {blk : Nat} {w0 w w' : World} {d d' : PA} (h : SS blk w0 d w) (k : SS blk w d' w') : SS blk w0 d' w' := ⟨k.pr, h.up.trans k.up, k.sz.trans h.sz⟩
theorem SS.upd0 {blk : Nat} {w0 w w' : World} {d : PA} (h : SS blk w0 d w) (hu : Upd [] w w') : SS blk w0 d w' := ⟨h.pr.upd0 hu, h.up.then hu, (csz_block (hu.block blk h.pr.lt (by simp))).trans h.sz⟩
/-- The new world of a step that leaves the row be. -/
theorem SS.side {S : List Nat} {blk : Nat} {w0 w w' : World} {d : PA} (h : SS blk w0 d w) (hu : Upd S w w') (hn : blk ∉ S) (hS : ∀ t, t ∈ S → w0.heap.size ≤ t) : SS blk w0 d w' :=
  ⟨h.pr.upd hu hn, h.up.step hu fun t ht => .inr (hS t ht), (csz_block (hu.block blk h.pr.lt hn)).trans h.sz⟩
/-- Pairs by their opening brackets. -/
def ltO (a b : Nat × Nat) : Bool := decide (a.1 < b.1)
theorem ltO_po (d : PA) (i j : Nat) : ltO d[i]! d[j]! = decide (po d i < po d j) := rfl
theorem swo_ltO : SWO ltO where
  irrefl := fun a => by simp [ltO]
  trans := fun {a b c} h1 h2 => by simp [ltO] at *; omega
  ntrans := fun {a b c} h1 h2 => by simp [ltO] at *; omega
/-- The value that is sorted. -/
def brv (blk n c : Nat) : Value := .slice (some ⟨blk, 0, none⟩) n c
theorem info179 : (Tryz.prog.info? 179).map (fun i => (i.zero, i.size, i.bytes)) = some (some (.agg #[.int .i64 0, .int .i64 0]), 2, 16) := by kernel_rfl

set_option maxRecDepth 100000 in
theorem pLen_any (blk n c : Nat) (w : World) : Calls Tryz.prog 184 #[brv blk n c] w fun e w' => e = .returned (.int .i64 n) ∧ w = w' := by
  unfold brv
  go_enter Tryz.func184, Tryz.ntmps184
  go_wp2
  go_ret
  exact ⟨rfl, rfl⟩

set_option maxHeartbeats 2000000 in
set_option maxRecDepth 100000 in
theorem pLess_any (blk n c i j : Nat) (d : PA) (w : World) (h : PR w blk d) (hn : d.size = n) (hi : i < n) (hj : j < n) (hm : n < 4611686018427387904) :
    Calls Tryz.prog 185 #[brv blk n c, .int .i64 i, .int .i64 j] w fun e w' => e = .returned (.bool (ltO d[i]! d[j]!)) ∧ Upd [] w w' := by
  have ci := h.c0 i (by omega)
  have cj := h.c0 j (by omega)
  rw [ltO_po]
  have HH := Lib.hid h
  clear h hn
  unfold brv
  go_enter Tryz.func185, Tryz.ntmps185
  go_wp2
  go_region
  all_goals (try go_wp2)
  all_goals go_ret
  all_goals (refine ⟨by simp, (Upd.refl _ _).drew⟩)

set_option maxHeartbeats 2000000 in
set_option maxRecDepth 100000 in
theorem pSwap_any (blk n c i j : Nat) (d : PA) (w : World) (h : PR w blk d) (hn : d.size = n) (hi : i < n) (hj : j < n) (hm : n < 4611686018427387904) :
    Calls Tryz.prog 186 #[brv blk n c, .int .i64 i, .int .i64 j] w fun e w' => e = .returned (.tuple #[]) ∧ SS blk w (swp d i j) w' := by
  have ci0 := h.c0 i (by omega)
  have cj0 := h.c0 j (by omega)
  have ci1 := h.c1 i (by omega)
  have cj1 := h.c1 j (by omega)
  have fi0 := Row.free h (i * 2)
  have fi1 := Row.free h (i * 2 + 1)
  have fj0 := Row.free h (j * 2)
  have fj1 := Row.free h (j * 2 + 1)
  have HS := Lib.hid (h.swap i j (by omega) (by omega))
  have HZ := Lib.hid (h.swap_sz i j (by omega) (by omega))
  obtain ⟨v1, e1⟩ := cell?_setCell_some (w := w) (p := ⟨blk, i * 2, none⟩) (x := .int .i64 (po d j)) (q := ⟨blk, j * 2, none⟩) cj0
  obtain ⟨v2, e2⟩ := cell?_setCell_some (w := w) (p := ⟨blk, i * 2, none⟩) (x := .int .i64 (po d j)) (q := ⟨blk, j * 2 + 1, none⟩) cj1
  obtain ⟨v3, e3⟩ := cell?_setCell_some (w := w.setCell ⟨blk, i * 2, none⟩ (.int .i64 (po d j))) (p := ⟨blk, i * 2 + 1, none⟩) (x := .int .i64 (pc d j)) (q := ⟨blk, j * 2 + 1, none⟩) e2
  clear h hn e2
  unfold brv
  go_enter Tryz.func186, Tryz.ntmps186
  go_wp2
  go_region
  all_goals (try go_wp2)
  all_goals go_end0
  all_goals exact ⟨rfl, HS.out, (((((Upd.refl [blk] w).setCell (p := ⟨blk, i * 2, none⟩) (.inl (by simp)) _).setCell (p := ⟨blk, i * 2 + 1, none⟩) (.inl (by simp)) _).setCell (p := ⟨blk, j * 2, none⟩) (.inl (by simp)) _).setCell (p := ⟨blk, j * 2 + 1, none⟩) (.inl (by simp)) _).drew, HZ.out⟩

theorem find_less (blk n c : Nat) : ∀ w : World, (method 333 149 (brv blk n c) "Less").run Tryz.prog w = .ok (185, brv blk n c) w := fun _ => by kernel_rfl
theorem find_swap (blk n c : Nat) : ∀ w : World, (method 333 149 (brv blk n c) "Swap").run Tryz.prog w = .ok (186, brv blk n c) w := fun _ => by kernel_rfl
theorem find_len (blk n c : Nat) : ∀ w : World, (method 333 149 (brv blk n c) "Len").run Tryz.prog w = .ok (184, brv blk n c) w := fun _ => by kernel_rfl
/-- A value to be sorted, its methods by their contracts. -/
structure Srt (rv : Value) (blk n : Nat) : Prop where
  ml : ∀ w : World, (method 333 149 rv "Less").run Tryz.prog w = .ok (185, rv) w
  ms : ∀ w : World, (method 333 149 rv "Swap").run Tryz.prog w = .ok (186, rv) w
  hm : n < 4611686018427387904
  less : ∀ (d : PA) (w : World) (i j : Nat), PR w blk d → d.size = n → i < n → j < n → Calls Tryz.prog 185 #[rv, .int .i64 i, .int .i64 j] w fun e w' => e = .returned (.bool (ltO d[i]! d[j]!)) ∧ Upd [] w w'
  swap : ∀ (d : PA) (w : World) (i j : Nat), PR w blk d → d.size = n → i < n → j < n → Calls Tryz.prog 186 #[rv, .int .i64 i, .int .i64 j] w fun e w' => e = .returned (.tuple #[]) ∧ SS blk w (swp d i j) w'
theorem Srt.of (blk n c : Nat) (hm : n < 4611686018427387904) : Srt (brv blk n c) blk n :=
  ⟨find_less blk n c, find_swap blk n c, hm, fun d w i j h hn hi hj => pLess_any blk n c i j d w h hn hi hj hm, fun d w i j h hn hi hj => pSwap_any blk n c i j d w h hn hi hj hm⟩

end Go.Proofs.YtjahmnenfknjgaaGreatDoor
namespace Go.Proofs.YtjahmnenfknjgaaGreatDoor
open Go.RowKit Go.Sort

set_option maxHeartbeats 4000000 in
set_option maxRecDepth 100000 in
theorem insSort_any {rv : Value} {blk n : Nat} (hR : Srt rv blk n) (a b : Nat) (d : PA) (w : World) (h : PR w blk d) (hn : d.size = n) (hab : a ≤ b) (hb : b ≤ n) :
    Calls Tryz.prog 153 #[.iface 149 rv, .int .i64 a, .int .i64 b] w fun e w' => e = .returned (.tuple #[]) ∧ SS blk w (Sort.insertionSort ltO d a b) w' := by
  have mL := hR.ml
  have mS := hR.ms
  have hm := hR.hm
  have H0 := Lib.hid h
  have HN := Lib.hid hn
  have HR := Lib.hid hR
  clear h hn hR
  go_enter Tryz.func153, Tryz.ntmps153
  go_wp2
  go_loopg [6] (b + 1) (fun k vi wr => ∃ (i : Nat) (dk : PA), vi = .int .i64 i ∧ a < i ∧ i ≤ b + 1 ∧ Hid (dk.size = n) ∧ SS blk w dk wr ∧ Hid (insOuter ltO a b i dk = insOuter ltO a b (a + 1) d) ∧ Hid (b + 1 - i ≤ k))
  case atStart => exact ⟨a + 1, d, by go_num, by omega, by omega, HN.out, SS.start H0.out, rfl, by show _ ≤ _; omega⟩
  case round =>
    obtain ⟨i, dk, rfl, hai, hib, hsk, hS, HO, hk⟩ := hrel
    by_cases hlt : i < b
    · go_wp2
      go_loopg [7] (i + 1) (fun k vj wr2 => ∃ (j : Nat) (dj : PA), vj = .int .i64 j ∧ a ≤ j ∧ j ≤ i ∧ Hid (dj.size = n) ∧ SS blk w dj wr2 ∧ Hid (insInner ltO a j dj = insInner ltO a i dk) ∧ Hid (j ≤ k))
      case atStart => exact ⟨i, dk, rfl, by omega, Nat.le_refl _, hsk, hS, rfl, by show _ ≤ _; omega⟩
      case round =>
        clear hS
        obtain ⟨j, dj, rfl, haj, hji, hsj, hS, HI, hk2⟩ := hrel
        by_cases hja : a < j
        · obtain ⟨i', hi'⟩ : ∃ i', i' = j - 1 := ⟨_, rfl⟩
          have hl := HR.out.less dj wr j i' hS.pr hsj.out (by omega) (by omega)
          have hw : (j : Int) - 1 = i' := by omega
          cases hlv : ltO dj[j]! dj[i']! with
          | true =>
            rw [hlv] at hl
            have HG : Hid (insInner ltO a i' (swp dj j i') = insInner ltO a i dk) := by show _ = _; rw [hi'] at hlv ⊢; rw [← HI.out, insInner_go ltO a j dj hja hlv]
            have HJ := Lib.hid hi'
            clear hlv hi'
            go_wp2_with (first
              | (go_at_call 185; refine hl.mono ?_; rintro e w1 ⟨rfl, hu1⟩; have hS1 := hS.upd0 hu1)
              | (go_at_call 186; refine (HR.out.swap dj w1 j i' hS1.pr hsj.out (by have := HJ.out; omega) (by have := HJ.out; omega)).mono ?_; rintro e w2 ⟨rfl, hS2⟩))
            go_roundg i'
            case measure => have := hk2.out; have := HJ.out; omega
            case rel => have := HJ.out; exact ⟨i', swp dj j i', by first | rfl | go_num, by omega, by omega, by show _ = _; rw [size_swp]; exact hsj.out, hS1.to hS2, HG, Nat.le_refl _⟩
          | false =>
            rw [hlv] at hl
            have HG : Hid (insOuter ltO a b (i + 1) dj = insOuter ltO a b (a + 1) d) := by show _ = _; rw [← HO.out, insOuter_go _ _ _ _ _ hlt, ← HI.out, insInner_stop _ _ _ _ (Or.inr (by rw [← hi']; exact hlv))]
            clear hlv hi'
            go_wp2_with (go_at_call 185; refine hl.mono ?_; rintro e w1 ⟨rfl, hu1⟩)
            go_roundg (b + 1 - (i + 1))
            case measure => have := hk.out; omega
            case rel => exact ⟨i + 1, dj, by go_num, by omega, by omega, hsj, hS.upd0 hu1, HG, Nat.le_refl _⟩
        · have HG : Hid (insOuter ltO a b (i + 1) dj = insOuter ltO a b (a + 1) d) := by show _ = _; rw [← HO.out, insOuter_go _ _ _ _ _ hlt, ← HI.out, insInner_stop _ _ _ _ (Or.inl (by omega))]
          go_wp2
          go_roundg (b + 1 - (i + 1))
          case measure => have := hk.out; omega
          case rel => exact ⟨i + 1, dj, by go_num, by omega, by omega, hsj, hS, HG, Nat.le_refl _⟩
    · have HE : Hid (Sort.insertionSort ltO d a b = dk) := by show _ = _; unfold Sort.insertionSort; rw [← HO.out, insOuter_stop _ _ _ _ _ hlt]
      go_wp2
      go_end0
      exact ⟨rfl, by rw [HE.out]; exact hS⟩

set_option maxHeartbeats 4000000 in
set_option maxRecDepth 100000 in
theorem revRange_any {rv : Value} {blk n : Nat} (hR : Srt rv blk n) (a b : Nat) (d : PA) (w : World) (h : PR w blk d) (hn : d.size = n) (hab : a ≤ b) (hb : b ≤ n) :
    Calls Tryz.prog 157 #[.iface 149 rv, .int .i64 a, .int .i64 b] w fun e w' => e = .returned (.tuple #[]) ∧ SS blk w (reverseRange d a b) w' := by
  have mS := hR.ms
  have hm := hR.hm
  have H0 := Lib.hid h
  have HN := Lib.hid hn
  have HR := Lib.hid hR
  clear h hn hR
  go_enter Tryz.func157, Tryz.ntmps157
  go_wp2
  go_loopg [6, 7] (b - a + 1) (fun k s6 s7 wr => ∃ (i jn : Nat) (jz : Int) (dk : PA), s6 = .int .i64 i ∧ s7 = .int .i64 jz ∧ Hid ((i : Int) < jz → jz = jn ∧ jn < n) ∧ Hid (¬ (i : Int) < jz → ¬ i < jn) ∧ Hid (jn - i ≤ k) ∧
    i ≤ 4611686018427387904 ∧ -1 ≤ jz ∧ jz ≤ 4611686018427387904 ∧ Hid (dk.size = n) ∧ SS blk w dk wr ∧ Hid (reverseLoop i jn dk = reverseLoop a (b - 1) d))
  case atStart => exact ⟨a, b - 1, (b : Int) - 1, d, rfl, rfl, fun h => ⟨by omega, by omega⟩, fun h => by omega, by show _ ≤ _; omega, by omega, by omega, by omega, HN.out, SS.start H0.out, rfl⟩
  case round =>
    obtain ⟨i, jn, jz, dk, rfl, rfl, h1, h2, hk, hi, hj1, hj2, hds, hS, heq⟩ := hrel
    by_cases hlt : (i : Int) < jz
    · obtain ⟨rfl, hjn⟩ := h1.out hlt
      have hij : i < jn := by omega
      have HG : Hid (reverseLoop (i + 1) (jn - 1) (swp dk i jn) = reverseLoop a (b - 1) d) := by show _ = _; rw [← heq.out]; conv => rhs; rw [reverseLoop, if_pos hij]
      clear h1 h2
      go_wp2_with (go_at_call 186; refine (HR.out.swap dk wr i jn hS.pr hds.out (by omega) (by omega)).mono ?_; rintro e w2 ⟨rfl, hS2⟩)
      go_roundg (jn - 1 - (i + 1))
      case measure => have := hk.out; omega
      case rel => exact ⟨i + 1, jn - 1, (jn : Int) - 1, swp dk i jn, by go_num, rfl, fun h => ⟨by omega, by omega⟩, fun h => by omega, Nat.le_refl _, by omega, by omega, by omega, by show _ = _; rw [size_swp]; exact hds.out, hS.to hS2, HG⟩
    · have HG : Hid (reverseRange d a b = dk) := by show _ = _; rw [reverseRange, ← heq.out, reverseLoop, if_neg (h2.out hlt)]
      clear h1 h2
      go_wp2
      go_end0
      exact ⟨rfl, by rw [HG.out]; exact hS⟩
end Go.Proofs.YtjahmnenfknjgaaGreatDoor
namespace Go.Proofs.YtjahmnenfknjgaaGreatDoor
open Go.RowKit Go.Sort

theorem Srt.lessV {rv : Value} {blk n : Nat} (hR : Srt rv blk n) {d : PA} {w : World} {v : Bool} (i j : Nat) {x y : Int} (h : PR w blk d) (hn : d.size = n) (hi : i < n) (hj : j < n) (hv : ltO d[i]! d[j]! = v) (hx : x = i) (hy : y = j) :
    Calls Tryz.prog 185 #[rv, .int .i64 x, .int .i64 y] w fun e w' => e = .returned (.bool v) ∧ Upd [] w w' := by
  subst hx hy hv; exact hR.less d w i j h hn hi hj
theorem Srt.swapV {rv : Value} {blk n : Nat} (hR : Srt rv blk n) {d : PA} {w : World} (i j : Nat) {x y : Int} (h : PR w blk d) (hn : d.size = n) (hi : i < n) (hj : j < n) (hx : x = i) (hy : y = j) :
    Calls Tryz.prog 186 #[rv, .int .i64 x, .int .i64 y] w fun e w' => e = .returned (.tuple #[]) ∧ SS blk w (swp d i j) w' := by
  subst hx hy; exact hR.swap d w i j h hn hi hj

set_option maxHeartbeats 8000000 in
set_option maxRecDepth 100000 in
theorem sift_any {rv : Value} {blk n : Nat} (hR : Srt rv blk n) (lo hi F : Nat) (d : PA) (w : World) (h : PR w blk d) (hn : d.size = n) (hlo : lo ≤ hi) (hb : F + hi ≤ n) :
    Calls Tryz.prog 162 #[.iface 149 rv, .int .i64 lo, .int .i64 hi, .int .i64 F] w fun e w' => e = .returned (.tuple #[]) ∧ SS blk w (siftDown ltO hi F lo d) w' := by
  have mL := hR.ml
  have mS := hR.ms
  have hm := hR.hm
  have H0 := Lib.hid h
  have HN := Lib.hid hn
  have HR := Lib.hid hR
  clear h hn hR
  go_enter Tryz.func162, Tryz.ntmps162
  go_wp2
  go_loopg [8] (hi + 1) (fun k vi wr => ∃ (root : Nat) (dk : PA), vi = .int .i64 root ∧ root ≤ hi ∧ Hid (dk.size = n) ∧ SS blk w dk wr ∧ Hid (siftDown ltO hi F root dk = siftDown ltO hi F lo d) ∧ Hid (hi - root ≤ k))
  case atStart => exact ⟨lo, d, rfl, hlo, HN.out, SS.start H0.out, rfl, by show _ ≤ _; omega⟩
  case round =>
    clear hlo
    obtain ⟨root, dk, rfl, hroot, hds, hS, HE, hk⟩ := hrel
    by_cases h0 : hi ≤ 2 * root + 1
    · have h0z : (hi : Int) ≤ 2 * (root : Int) + 1 := by omega
      have HG : Hid (siftDown ltO hi F lo d = dk) := by show _ = _; rw [← HE.out, sd_end ltO dk h0]
      clear h0
      go_wp2
      first | go_end0 | (refine bodyPost_ret (results_none rfl _ _ _) rfl ?_)
      exact ⟨rfl, by rw [HG.out]; exact hS⟩
    · have h0z : ¬ ((hi : Int) ≤ 2 * (root : Int) + 1) := by omega
      by_cases h1 : 2 * root + 2 < hi
      · have h1z : 2 * (root : Int) + 1 + 1 < (hi : Int) := by omega
        cases hL : ltO dk[F + (2 * root + 1)]! dk[F + (2 * root + 2)]! with
        | true =>
          have HL := Lib.hid hL
          cases hG : ltO dk[F + root]! dk[F + (2 * root + 2)]! with
          | true =>
            have HV := Lib.hid hG
            have HX : Hid (siftDown ltO hi F (2 * root + 2) (swp dk (F + root) (F + (2 * root + 2))) = siftDown ltO hi F lo d) := by show _ = _; rw [← HE.out, sd_right_go ltO dk h1 hL hG]
            clear hG hL
            go_wp2_with (first
              | (go_at_call 185; refine (HR.out.lessV (F + (2 * root + 1)) (F + (2 * root + 2)) hS.pr hds.out (by omega) (by omega) HL.out (by omega) (by omega)).mono ?_; rintro e w1 ⟨rfl, hu1⟩; have hS1 := hS.upd0 hu1)
              | (go_at_call 185; refine (HR.out.lessV (F + root) (F + (2 * root + 2)) hS1.pr hds.out (by omega) (by omega) HV.out (by omega) (by omega)).mono ?_; rintro e w2 ⟨rfl, hu2⟩; have hS2 := hS1.upd0 hu2)
              | (go_at_call 186; refine (HR.out.swapV (F + root) (F + (2 * root + 2)) hS2.pr hds.out (by omega) (by omega) (by omega) (by omega)).mono ?_; rintro e w3 ⟨rfl, hS3⟩))
            go_roundg (hi - (2 * root + 2))
            case measure => have := hk.out; omega
            case rel => exact ⟨2 * root + 2, swp dk (F + root) (F + (2 * root + 2)), by go_num, by omega, by show _ = _; rw [size_swp]; exact hds.out, hS2.to hS3, HX, Nat.le_refl _⟩
          | false =>
            have HV := Lib.hid hG
            have HX : Hid (siftDown ltO hi F lo d = dk) := by show _ = _; rw [← HE.out, sd_right_stop ltO dk h1 hL hG]
            clear hG hL
            go_wp2_with (first
              | (go_at_call 185; refine (HR.out.lessV (F + (2 * root + 1)) (F + (2 * root + 2)) hS.pr hds.out (by omega) (by omega) HL.out (by omega) (by omega)).mono ?_; rintro e w1 ⟨rfl, hu1⟩; have hS1 := hS.upd0 hu1)
              | (go_at_call 185; refine (HR.out.lessV (F + root) (F + (2 * root + 2)) hS1.pr hds.out (by omega) (by omega) HV.out (by omega) (by omega)).mono ?_; rintro e w2 ⟨rfl, hu2⟩; have hS2 := hS1.upd0 hu2))
            refine bodyPost_ret (results_none rfl _ _ _) rfl ?_
            exact ⟨rfl, by rw [HX.out]; exact hS2⟩
        | false =>
          have HL := Lib.hid hL
          cases hG : ltO dk[F + root]! dk[F + (2 * root + 1)]! with
          | true =>
            have HV := Lib.hid hG
            have HX : Hid (siftDown ltO hi F (2 * root + 1) (swp dk (F + root) (F + (2 * root + 1))) = siftDown ltO hi F lo d) := by show _ = _; rw [← HE.out, sd_left_go ltO dk (by omega) (fun _ => hL) hG]
            clear hG hL
            go_wp2_with (first
              | (go_at_call 185; refine (HR.out.lessV (F + (2 * root + 1)) (F + (2 * root + 2)) hS.pr hds.out (by omega) (by omega) HL.out (by omega) (by omega)).mono ?_; rintro e w1 ⟨rfl, hu1⟩; have hS1 := hS.upd0 hu1)
              | (go_at_call 185; refine (HR.out.lessV (F + root) (F + (2 * root + 1)) hS1.pr hds.out (by omega) (by omega) HV.out (by omega) (by omega)).mono ?_; rintro e w2 ⟨rfl, hu2⟩; have hS2 := hS1.upd0 hu2)
              | (go_at_call 186; refine (HR.out.swapV (F + root) (F + (2 * root + 1)) hS2.pr hds.out (by omega) (by omega) (by omega) (by omega)).mono ?_; rintro e w3 ⟨rfl, hS3⟩))
            go_roundg (hi - (2 * root + 1))
            case measure => have := hk.out; omega
            case rel => exact ⟨2 * root + 1, swp dk (F + root) (F + (2 * root + 1)), by go_num, by omega, by show _ = _; rw [size_swp]; exact hds.out, hS2.to hS3, HX, Nat.le_refl _⟩
          | false =>
            have HV := Lib.hid hG
            have HX : Hid (siftDown ltO hi F lo d = dk) := by show _ = _; rw [← HE.out, sd_left_stop ltO dk (by omega) (fun _ => hL) hG]
            clear hG hL
            go_wp2_with (first
              | (go_at_call 185; refine (HR.out.lessV (F + (2 * root + 1)) (F + (2 * root + 2)) hS.pr hds.out (by omega) (by omega) HL.out (by omega) (by omega)).mono ?_; rintro e w1 ⟨rfl, hu1⟩; have hS1 := hS.upd0 hu1)
              | (go_at_call 185; refine (HR.out.lessV (F + root) (F + (2 * root + 1)) hS1.pr hds.out (by omega) (by omega) HV.out (by omega) (by omega)).mono ?_; rintro e w2 ⟨rfl, hu2⟩; have hS2 := hS1.upd0 hu2))
            refine bodyPost_ret (results_none rfl _ _ _) rfl ?_
            exact ⟨rfl, by rw [HX.out]; exact hS2⟩
      · have h1z : ¬ (2 * (root : Int) + 1 + 1 < (hi : Int)) := by omega
        cases hG : ltO dk[F + root]! dk[F + (2 * root + 1)]! with
        | true =>
          have HV := Lib.hid hG
          have HX : Hid (siftDown ltO hi F (2 * root + 1) (swp dk (F + root) (F + (2 * root + 1))) = siftDown ltO hi F lo d) := by show _ = _; rw [← HE.out, sd_left_go ltO dk (by omega) (fun h => absurd h h1) hG]
          clear hG
          go_wp2_with (first
            | (go_at_call 185; refine (HR.out.lessV (F + root) (F + (2 * root + 1)) hS.pr hds.out (by omega) (by omega) HV.out (by omega) (by omega)).mono ?_; rintro e w2 ⟨rfl, hu2⟩; have hS2 := hS.upd0 hu2)
            | (go_at_call 186; refine (HR.out.swapV (F + root) (F + (2 * root + 1)) hS2.pr hds.out (by omega) (by omega) (by omega) (by omega)).mono ?_; rintro e w3 ⟨rfl, hS3⟩))
          go_roundg (hi - (2 * root + 1))
          case measure => have := hk.out; omega
          case rel => exact ⟨2 * root + 1, swp dk (F + root) (F + (2 * root + 1)), by go_num, by omega, by show _ = _; rw [size_swp]; exact hds.out, hS2.to hS3, HX, Nat.le_refl _⟩
        | false =>
          have HV := Lib.hid hG
          have HX : Hid (siftDown ltO hi F lo d = dk) := by show _ = _; rw [← HE.out, sd_left_stop ltO dk (by omega) (fun h => absurd h h1) hG]
          clear hG
          go_wp2_with (first
            | (go_at_call 185; refine (HR.out.lessV (F + root) (F + (2 * root + 1)) hS.pr hds.out (by omega) (by omega) HV.out (by omega) (by omega)).mono ?_; rintro e w2 ⟨rfl, hu2⟩; have hS2 := hS.upd0 hu2))
          refine bodyPost_ret (results_none rfl _ _ _) rfl ?_
          exact ⟨rfl, by rw [HX.out]; exact hS2⟩

set_option maxHeartbeats 8000000 in
set_option maxRecDepth 100000 in
theorem heap_any {rv : Value} {blk n : Nat} (hR : Srt rv blk n) (a b : Nat) (d : PA) (w : World) (h : PR w blk d) (hn : d.size = n) (hab : a ≤ b) (hb : b ≤ n) :
    Calls Tryz.prog 154 #[.iface 149 rv, .int .i64 a, .int .i64 b] w fun e w' => e = .returned (.tuple #[]) ∧ SS blk w (heapSort ltO d a b) w' := by
  have mL := hR.ml
  have mS := hR.ms
  have hm := hR.hm
  obtain ⟨L, hL⟩ : ∃ L, L = b - a := ⟨_, rfl⟩
  have ecast : (b : Int) - (a : Int) = (L : Int) := by omega
  have eh := half_start hab
  rw [ecast, ← hL] at eh
  have H0 := Lib.hid h
  have HN := Lib.hid hn
  have HR := Lib.hid hR
  have HS : Hid (heapSort ltO d a b = heapPop ltO a L (heapBuild ltO L a ((L - 1) / 2 + 1) d)) := by show _ = _; rw [heapSort, ← hL]
  have hLb : a + L ≤ n := by omega
  have hLn : L ≤ n := by omega
  clear h hn hR hL hab hb
  go_enter Tryz.func154, Tryz.ntmps154
  go_wp2
  go_loopg [9] ((L - 1) / 2 + 1) (fun k s9 wr => ∃ (j : Nat) (dk : PA), s9 = .int .i64 ((j : Int) - 1) ∧ j ≤ (L - 1) / 2 + 1 ∧ Hid (dk.size = n) ∧ SS blk w dk wr ∧ Hid (heapBuild ltO L a j dk = heapBuild ltO L a ((L - 1) / 2 + 1) d) ∧ Hid (j ≤ k))
  case atStart => exact ⟨(L - 1) / 2 + 1, d, by first | (rw [eh]) | (congr 1; omega), Nat.le_refl _, HN.out, SS.start H0.out, rfl, Nat.le_refl _⟩
  case round =>
    obtain ⟨j, dk, rfl, hj, hds, hS, HE, hk⟩ := hrel
    by_cases hj0 : j = 0
    · subst hj0
      have HE' : Hid (heapBuild ltO L a ((L - 1) / 2 + 1) d = dk) := by show _ = _; rw [← HE.out]; rfl
      clear HE
      go_wp2
      go_loopg [10] L (fun k s10 wr => ∃ (j : Nat) (dp : PA), s10 = .int .i64 ((j : Int) - 1) ∧ j ≤ L ∧ Hid (dp.size = n) ∧ SS blk w dp wr ∧ Hid (heapPop ltO a j dp = heapPop ltO a L dk) ∧ Hid (j ≤ k))
      case atStart => exact ⟨L, dk, rfl, Nat.le_refl _, hds, hS, rfl, Nat.le_refl _⟩
      case round =>
        clear hS hj hk
        obtain ⟨j, dp, rfl, hj, hdp, hS, HP, hk⟩ := hrel
        by_cases hj0 : j = 0
        · subst hj0
          have HX : Hid (heapSort ltO d a b = dp) := by show _ = _; rw [HS.out, HE'.out, ← HP.out]; rfl
          go_wp2
          go_end0
          exact ⟨rfl, by rw [HX.out]; exact hS⟩
        · obtain ⟨i, hi⟩ : ∃ i, i = j - 1 := ⟨_, rfl⟩
          have e1 : (j : Int) - 1 = (i : Int) := by omega
          have hjj : j = i + 1 := by omega
          have HX : Hid (heapPop ltO a i (siftDown ltO i a 0 (swp dp a (a + i))) = heapPop ltO a L dk) := by show _ = _; rw [← HP.out, hjj]; rfl
          have HJ := Lib.hid hjj
          have hii : i < L := by omega
          rw [e1]
          clear hi hjj hj hj0 e1
          go_wp2_with (first
            | (go_at_call 186; refine (HR.out.swapV a (a + i) hS.pr hdp.out (by omega) (by omega) (by omega) (by omega)).mono ?_; rintro e w1 ⟨rfl, hS1⟩; have hS2 := hS.to hS1)
            | (go_at_call 162; refine (sift_any HR.out 0 i a (swp dp a (a + i)) _ hS2.pr (by rw [size_swp]; exact hdp.out) (by omega) (by omega)).mono ?_; rintro e w3 ⟨rfl, hS3⟩))
          go_roundg i
          case measure => have := hk.out; have := HJ.out; omega
          case rel => exact ⟨i, siftDown ltO i a 0 (swp dp a (a + i)), rfl, by omega, by show _ = _; rw [size_siftDown _ _ _ _ _ _ (Nat.le_refl _), size_swp]; exact hdp.out, hS2.to hS3, HX, Nat.le_refl _⟩
    · obtain ⟨i, hi⟩ : ∃ i, i = j - 1 := ⟨_, rfl⟩
      have e1 : (j : Int) - 1 = (i : Int) := by omega
      have hjj : j = i + 1 := by omega
      have HX : Hid (heapBuild ltO L a i (siftDown ltO L a i dk) = heapBuild ltO L a ((L - 1) / 2 + 1) d) := by show _ = _; rw [← HE.out, hjj]; rfl
      have HJ := Lib.hid hjj
      have hii : i ≤ (L - 1) / 2 := by omega
      rw [e1]
      clear hi hjj hj hj0 e1 eh
      go_wp2_with (go_at_call 162; refine (sift_any HR.out i L a dk _ hS.pr hds.out (by omega) (by omega)).mono ?_; rintro e w3 ⟨rfl, hS3⟩)
      go_roundg i
      case measure => have := hk.out; have := HJ.out; omega
      case rel => exact ⟨i, siftDown ltO L a i dk, rfl, by omega, by show _ = _; rw [size_siftDown _ _ _ _ _ _ (Nat.le_refl _)]; exact hds.out, hS.to hS3, HX, Nat.le_refl _⟩
end Go.Proofs.YtjahmnenfknjgaaGreatDoor
namespace Go.Proofs.YtjahmnenfknjgaaGreatDoor
open Go.RowKit Go.Sort

set_option maxRecDepth 100000 in
theorem tab8_eq : ({ data := (([0, 1, 2, 2, 3, 3, 3, 3, 4, 4, 4, 4, 4, 4, 4, 4, 5, 5, 5, 5, 5, 5, 5, 5, 5, 5, 5, 5, 5, 5, 5, 5, 6, 6, 6, 6, 6, 6, 6, 6, 6, 6, 6, 6, 6, 6, 6, 6, 6, 6, 6, 6, 6, 6, 6, 6, 6, 6, 6, 6, 6, 6, 6, 6].append [7, 7, 7, 7, 7, 7, 7, 7, 7, 7, 7, 7, 7, 7, 7, 7, 7, 7, 7, 7, 7, 7, 7, 7, 7, 7, 7, 7, 7, 7, 7, 7, 7, 7, 7, 7, 7, 7, 7, 7, 7, 7, 7, 7, 7, 7, 7, 7, 7, 7, 7, 7, 7, 7, 7, 7, 7, 7, 7, 7, 7, 7, 7, 7]).append ([8, 8, 8, 8, 8, 8, 8, 8, 8, 8, 8, 8, 8, 8, 8, 8, 8, 8, 8, 8, 8, 8, 8, 8, 8, 8, 8, 8, 8, 8, 8, 8, 8, 8, 8, 8, 8, 8, 8, 8, 8, 8, 8, 8, 8, 8, 8, 8, 8, 8, 8, 8, 8, 8, 8, 8, 8, 8, 8, 8, 8, 8, 8, 8].append [8, 8, 8, 8, 8, 8, 8, 8, 8, 8, 8, 8, 8, 8, 8, 8, 8, 8, 8, 8, 8, 8, 8, 8, 8, 8, 8, 8, 8, 8, 8, 8, 8, 8, 8, 8, 8, 8, 8, 8, 8, 8, 8, 8, 8, 8, 8, 8, 8, 8, 8, 8, 8, 8, 8, 8, 8, 8, 8, 8, 8, 8, 8, 8])).toArray } : ByteArray) = Lib.len8tab := by kernel_rfl

set_option maxHeartbeats 4000000 in
set_option maxRecDepth 100000 in
theorem len64_any (x : Int) (h0 : 0 ≤ x) (hx : x ≤ 255) (w : World) :
    Calls Tryz.prog 152 #[.int .u64 x] w fun e w' => e = .returned (.int .i64 (bitsLen x.toNat : Nat)) ∧ w = w' := by
  have hy := bitLen_eq x.toNat (by omega)
  have hz : bitsLen x.toNat ≤ 8 := (bitsLen_le_iff x.toNat 8).2 (by omega)
  have h4 : x % 256 = x := by omega
  rw [← hy]
  go_enter Tryz.func152, Tryz.ntmps152
  simp only [tab8_eq]
  go_wp2
  go_ret
  refine ⟨congrArg Ending.returned (congrArg (Value.int IntKind.i64) ?_), rfl⟩
  rw [Lib.len8_of x (by omega) (by omega), hy]
  unfold wrap64
  omega

set_option maxHeartbeats 4000000 in
set_option maxRecDepth 100000 in
theorem bitsLen_any (n : Nat) (hx : n ≤ 255) (w : World) :
    Calls Tryz.prog 145 #[.int .u64 n] w fun e w' => e = .returned (.int .i64 (bitsLen n : Nat)) ∧ w = w' := by
  have hc : ∀ w, Calls Tryz.prog 152 #[.int .u64 (n : Int)] w fun e w' => e = .returned (.int .i64 (bitsLen n : Nat)) ∧ w = w' := fun w => by
    have := len64_any (n : Int) (by omega) (by omega) w
    rwa [Int.toNat_natCast] at this
  go_enter Tryz.func145, Tryz.ntmps145
  go_wp2_with (go_at_call 152; refine (hc _).mono ?_; rintro e w' ⟨rfl, rfl⟩)
  go_ret
  exact ⟨rfl, rfl⟩

set_option maxHeartbeats 4000000 in
set_option maxRecDepth 100000 in
theorem nextPow_any (n : Nat) (hn : n ≤ 255) (w : World) :
    Calls Tryz.prog 163 #[.int .i64 n] w fun e w' => e = .returned (.int .u64 ((1 <<< bitsLen n : Nat) : Int)) ∧ w = w' := by
  have hk : bitsLen n ≤ 62 := (bitsLen_le_iff n 62).2 (by omega)
  have hp := wrap_two_pow (bitsLen n) hk
  have wr : IntKind.u64.wrap (n : Int) = n := by simp [IntKind.wrap, IntKind.bits, IntKind.signed]; omega
  go_enter Tryz.func163, Tryz.ntmps163
  go_wp2_with (go_at_call 145; refine (bitsLen_any n hn _).mono ?_; rintro e w' ⟨rfl, rfl⟩)
  go_ret
  exact ⟨rfl, rfl⟩

/-- The generator's cell. -/
def Gen (w : World) (g X : Nat) : Prop := Row w g 209 [.int .u64 (X : Int)]

set_option maxHeartbeats 4000000 in
set_option maxRecDepth 100000 in
theorem xnext_any (g X : Nat) (hX : X < 18446744073709551616) (w : World) (h : Gen w g X) :
    Calls Tryz.prog 164 #[.pointer (some ⟨g, 0, none⟩)] w fun e w' => e = .returned (.int .u64 (xorNextN X : Nat)) ∧ Gen w' g (xorNextN X) ∧ Upd [g] w w' := by
  have hc : w.cell? ⟨g, 0, none⟩ = some (.int .u64 (X : Int)) := Row.cell h 0 (by simp)
  have hf := Row.free h 0
  obtain ⟨A, hA⟩ : ∃ A : Nat, A = X ^^^ (X * 8192 % 18446744073709551616) := ⟨_, rfl⟩
  obtain ⟨B, hB⟩ : ∃ B : Nat, B = A ^^^ (A / 128) := ⟨_, rfl⟩
  obtain ⟨C, hC⟩ : ∃ C : Nat, C = B ^^^ (B * 131072 % 18446744073709551616) := ⟨_, rfl⟩
  have lA : A < 18446744073709551616 := by rw [hA]; exact Nat.xor_lt_two_pow (n := 64) (by omega) (by omega)
  have lB : B < 18446744073709551616 := by rw [hB]; exact Nat.xor_lt_two_pow (n := 64) (by omega) (by omega)
  have e1 : bits .xor .u64 (X : Int) (IntKind.u64.wrap ((X : Int) * 8192)) = (A : Int) := by
    rw [IntKind.wrap_u64, show ((X : Int) * 8192 % 18446744073709551616) = ((X * 8192 % 18446744073709551616 : Nat) : Int) by omega, bits_xor_u64_nat _ _ hX (by omega), hA]
  have e2 : bits .xor .u64 (A : Int) ((A : Int) / 128) = (B : Int) := by
    rw [show ((A : Int) / 128) = ((A / 128 : Nat) : Int) by omega, bits_xor_u64_nat _ _ lA (by omega), hB]
  have e3 : bits .xor .u64 (B : Int) (IntKind.u64.wrap ((B : Int) * 131072)) = (C : Int) := by
    rw [IntKind.wrap_u64, show ((B : Int) * 131072 % 18446744073709551616) = ((B * 131072 % 18446744073709551616 : Nat) : Int) by omega, bits_xor_u64_nat _ _ lB (by omega), hC]
  have hv : xorNextN X = C := by unfold xorNextN; simp only []; rw [← hA, ← hB, ← hC]
  rw [hv]
  have HS : Hid (Gen (w.setCell ⟨g, 0, none⟩ (.int .u64 (C : Int))) g C) := Row.set h 0 (.int .u64 (C : Int)) (by simp)
  clear hA hB hC hv h
  have hss : ∀ v v', (w.setCell ⟨g, 0, none⟩ v).setCell ⟨g, 0, none⟩ v' = w.setCell ⟨g, 0, none⟩ v' := setCell_setCell w g 0
  go_enter Tryz.func164, Tryz.ntmps164
  go_wp2
  go_region
  all_goals go_wp2
  all_goals go_region
  all_goals go_wp2
  all_goals go_region
  all_goals go_wp2
  go_ret
  exact ⟨rfl, HS.out, (((Upd.refl [g] w).setCell (p := ⟨g, 0, none⟩) (.inl (by simp)) _).drew.drew.drew)⟩

set_option maxHeartbeats 8000000 in
set_option maxRecDepth 1000000 in
theorem breakP_go {rv : Value} {blk n : Nat} (hR : Srt rv blk n) (a L : Nat) (d : PA) (w : World) (h : PR w blk d) (hn : d.size = n) (hb : a + L ≤ n) (h8 : 8 ≤ L) (hL : L ≤ 255) :
    Calls Tryz.prog 155 #[.iface 149 rv, .int .i64 a, .int .i64 ((a + L : Nat) : Int)] w fun e w' => e = .returned (.tuple #[]) ∧ SS blk w (breakPatterns d a (a + L)) w' := by
  have mS := hR.ms
  have hm := hR.hm
  have HR := Lib.hid hR
  have H0 := Lib.hid h
  have HN := Lib.hid hn
  rw [breakPatterns_eq d a L h8]
  obtain ⟨M, hM⟩ : ∃ M : Nat, M = 1 <<< bitsLen L := ⟨_, rfl⟩
  have hM1 : 1 ≤ M := by rw [hM, Nat.one_shiftLeft]; exact Nat.two_pow_pos _
  have hM2 : M ≤ 2 * L := by rw [hM, Nat.one_shiftLeft]; exact two_pow_bitsLen_le (by omega)
  have hNP : Hid (∀ w, Calls Tryz.prog 163 #[.int .i64 (L : Int)] w fun e w' => e = .returned (.int .u64 (M : Int)) ∧ w = w') := by rw [hM]; exact fun w => nextPow_any L hL w
  rw [← hM]
  clear hM hR hn
  obtain ⟨I, hI⟩ : ∃ I : Nat, I = a + L / 4 * 2 - 1 := ⟨_, rfl⟩
  rw [← hI]
  have eI : (a : Int) + (L : Int) / 4 * 2 - 1 = (I : Int) := by omega
  have eI1 : (a : Int) + (L : Int) / 4 * 2 + 1 = (I : Int) + 2 := by omega
  have hIn : I + 2 < n := by omega
  have hLz : ((a : Int) + (L : Int) - (a : Int)) = (L : Int) := by omega
  have h8z : (8 : Int) ≤ (L : Int) := by omega
  have hgb : blk ≠ w.heap.size := by have := h.lt; omega
  have HG0 : Hid (Gen (w.alloc (.cells #[.int .u64 (L : Int)] 209)) w.heap.size L) := Row.new w 209 [.int .u64 (L : Int)]
  have HX : Hid (SS blk w d (w.alloc (.cells #[.int .u64 (L : Int)] 209))) := (SS.start h).upd0 ((Upd.refl _ _).alloc _)
  have HI := Lib.hid hI
  clear h hI
  go_enter Tryz.func155, Tryz.ntmps155
  go_wp2_with (go_at_call 163; refine (hNP.out _).mono ?_; rintro e w' ⟨rfl, rfl⟩)
  go_loopg [9] 4 (fun k vi wr => ∃ (t : Nat) (r : UInt64) (dk : PA), vi = .int .i64 ((I : Int) + (t : Int)) ∧ t ≤ 3 ∧ Hid (3 - t ≤ k) ∧ Hid (dk.size = n) ∧ SS blk w dk wr ∧ Hid (Gen wr w.heap.size r.toNat) ∧
      Hid (bpRest a L M I (3 - t) t (r, dk) = bpRest a L M I 3 0 (UInt64.ofNat L, d)))
  case atStart =>
    refine ⟨0, UInt64.ofNat L, d, by simp, by omega, by show _ ≤ _; omega, HN.out, HX.out, ?_, rfl⟩
    rw [show (UInt64.ofNat L).toNat = L from by simp; omega]
    exact HG0
  case round =>
    clear HX HG0
    obtain ⟨t, r, dk, rfl, ht, hk, hds, hS, hG, HB⟩ := hrel
    by_cases ht3 : t < 3
    · have hle : (I : Int) + (t : Int) ≤ (I : Int) + 2 := by omega
      obtain ⟨R, hRr⟩ : ∃ R : Nat, R = r.toNat := ⟨_, rfl⟩
      have lR : R < 18446744073709551616 := by rw [hRr]; exact r.toNat_lt
      obtain ⟨R', hR'⟩ : ∃ R' : Nat, R' = xorNextN R := ⟨_, rfl⟩
      have lR' : R' < 18446744073709551616 := by rw [hR']; exact xorNextN_lt R lR
      obtain ⟨O, hO⟩ : ∃ O : Nat, O = R' &&& (M - 1) := ⟨_, rfl⟩
      have lO : O ≤ M - 1 := by rw [hO]; exact Nat.and_le_right
      have eAnd : bits .and .u64 (R' : Int) ((M : Int) - 1) = (O : Int) := by
        rw [show ((M : Int) - 1) = ((M - 1 : Nat) : Int) by omega, bits_and_u64_nat _ _ lR' (by omega), hO]
      rw [← hRr] at hG
      have hNext : Hid (∀ w', Gen w' w.heap.size R → Calls Tryz.prog 164 #[.pointer (some ⟨w.heap.size, 0, none⟩)] w' fun e w'' => e = .returned (.int .u64 (R' : Int)) ∧ Gen w'' w.heap.size R' ∧ Upd [w.heap.size] w' w'') := fun w' hw => by
        rw [hR']; exact xnext_any _ R lR w' hw
      have HN2 : Hid (R' = (xorNext r).toNat ∧ O = (xorNext r).toNat &&& (M - 1)) := by
        have e : R' = (xorNext r).toNat := by rw [hR', hRr, xorNext_toNat]
        exact ⟨e, by rw [hO, e]⟩
      clear hRr hR' hO
      have STEP : Hid (∀ w2, SS blk w dk w2 → ∀ w3, Upd [w.heap.size] w2 w3 → SS blk w dk w3) := fun w2 h2 w3 hu => h2.side hu (by simpa using hgb) fun s hs => by simp at hs; omega
      have KEEP : Hid (∀ (w2 w3 : World) (X : Nat) (d3 : PA), Gen w2 w.heap.size X → SS blk w2 d3 w3 → Gen w3 w.heap.size X) := fun w2 w3 X d3 hg h3 => Row.upd hg h3.up (by simpa using fun e => hgb e.symm)
      by_cases hLO : L ≤ O
      · have hLOz : (L : Int) ≤ (O : Int) := by omega
        obtain ⟨o, ho⟩ : ∃ o, o = O - L := ⟨_, rfl⟩
        have eo : (O : Int) - (L : Int) = o := by omega
        have hoL : o < L := by omega
        have HG : Hid (bpRest a L M I (3 - (t + 1)) (t + 1) (xorNext r, swp dk (I + t) (a + o)) = bpRest a L M I 3 0 (UInt64.ofNat L, d)) := by
          show _ = _; rw [← HB.out, bp_step a L M _ t r dk o ht3 (by rw [← HN2.out.2, if_pos (by omega), ho])]
        clear ho
        go_wp2_with (first
          | (go_at_call 164; refine (hNext.out _ hG).mono ?_; rintro e w1 ⟨rfl, hG1, hu1⟩; have hS1 := STEP.out _ hS _ hu1)
          | (go_at_call 186; refine (HR.out.swapV (I + t) (a + o) hS1.pr hds.out (by omega) (by omega) (by omega) (by omega)).mono ?_; rintro e w2 ⟨rfl, hS2⟩))
        go_roundg (3 - (t + 1))
        case measure => have := hk.out; omega
        case rel => exact ⟨t + 1, xorNext r, swp dk (I + t) (a + o), by first | rfl | (congr 1; push_cast; omega) | (congr 1; omega), by omega, Nat.le_refl _, by show _ = _; rw [size_swp]; exact hds.out, hS1.to hS2, by rw [← HN2.out.1]; exact KEEP.out _ _ _ _ hG1 hS2, HG⟩
      · have hLOz : ¬ (L : Int) ≤ (O : Int) := by omega
        have hoL : O < L := by omega
        have HG : Hid (bpRest a L M I (3 - (t + 1)) (t + 1) (xorNext r, swp dk (I + t) (a + O)) = bpRest a L M I 3 0 (UInt64.ofNat L, d)) := by
          show _ = _; rw [← HB.out, bp_step a L M _ t r dk O ht3 (by rw [← HN2.out.2, if_neg (by omega)])]
        go_wp2_with (first
          | (go_at_call 164; refine (hNext.out _ hG).mono ?_; rintro e w1 ⟨rfl, hG1, hu1⟩; have hS1 := STEP.out _ hS _ hu1)
          | (go_at_call 186; refine (HR.out.swapV (I + t) (a + O) hS1.pr hds.out (by omega) (by omega) (by omega) (by omega)).mono ?_; rintro e w2 ⟨rfl, hS2⟩))
        go_roundg (3 - (t + 1))
        case measure => have := hk.out; omega
        case rel => exact ⟨t + 1, xorNext r, swp dk (I + t) (a + O), by first | rfl | (congr 1; push_cast; omega) | (congr 1; omega), by omega, Nat.le_refl _, by show _ = _; rw [size_swp]; exact hds.out, hS1.to hS2, by rw [← HN2.out.1]; exact KEEP.out _ _ _ _ hG1 hS2, HG⟩
    · obtain rfl : t = 3 := by omega
      have hle : ¬ ((I : Int) + ((3 : Nat) : Int) ≤ (I : Int) + 2) := by omega
      go_wp2
      go_end0
      exact ⟨rfl, by rw [← HB.out]; exact hS⟩

set_option maxHeartbeats 4000000 in
set_option maxRecDepth 100000 in
theorem breakP_any {rv : Value} {blk n : Nat} (hR : Srt rv blk n) (a b : Nat) (d : PA) (w : World) (h : PR w blk d) (hn : d.size = n) (hab : a ≤ b) (hb : b ≤ n) (hL : n ≤ 255) :
    Calls Tryz.prog 155 #[.iface 149 rv, .int .i64 a, .int .i64 b] w fun e w' => e = .returned (.tuple #[]) ∧ SS blk w (breakPatterns d a b) w' := by
  obtain ⟨L, rfl⟩ : ∃ L, b = a + L := ⟨b - a, by omega⟩
  by_cases h8 : 8 ≤ L
  · exact breakP_go hR a L d w h hn hb h8 (by omega)
  · have hv : breakPatterns d a (a + L) = d := by unfold breakPatterns; simp only [Nat.add_sub_cancel_left]; rw [if_neg h8]
    rw [hv]
    have hm := hR.hm
    have hLz : ((a : Int) + (L : Int) - (a : Int)) = (L : Int) := by omega
    have h8z : ¬ (8 : Int) ≤ (L : Int) := by omega
    have H0 := Lib.hid h
    clear h hR hv
    go_enter Tryz.func155, Tryz.ntmps155
    go_wp2
    go_end0
    exact ⟨rfl, SS.start H0.out⟩
end Go.Proofs.YtjahmnenfknjgaaGreatDoor
