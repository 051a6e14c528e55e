/- container/list in memory, as far as it is used: New, Init, Len, Front, Next, PushFront, Remove of the front; each by its contract. -/
import Derived.Test.YtjahmnenfknjgaaGreatDoorG1
import Derived.LaidEqlPtr
import Derived.Test.YtjahmnenfknjgaaGreatDoorG8
import Derived.Test.YtjahmnenfknjgaaGreatDoorG6
import Derived.BigQuiet
import Derived.Deep.QuietTactic
set_option linter.unusedVariables false
set_option linter.unusedSimpArgs false
namespace Go.Proofs.YtjahmnenfknjgaaGreatDoor
open Go.RowKit

theorem info171 : (Tryz.prog.info? 171).map (fun i => (i.zero, i.size, i.bytes)) = some (some (.agg #[.pointer none, .pointer none, .pointer none, Value.nilIface]), 4, 40) := by kernel_rfl
theorem info173 : (Tryz.prog.info? 173).map (fun i => (i.zero, i.size, i.bytes)) = some (some (.agg #[.pointer none, .pointer none, .pointer none, Value.nilIface, .int .i64 0]), 5, 48) := by kernel_rfl
def eP (x : Nat) : Value := .pointer (some ⟨x, 0, none⟩)
def eV (v : Nat) : Value := .iface 3 (.int .i64 (v : Int))
def hdE (b : Nat) : List (Nat × Nat) → Nat
  | [] => b
  | (e, _) :: _ => e
/-- The first element, nil if there is none. -/
def frE : List (Nat × Nat) → Value
  | [] => .pointer none
  | (e, _) :: _ => eP e
/-- The elements, from the one behind p on. -/
def DL (w : World) (b : Nat) : Nat → List (Nat × Nat) → Prop
  | _, [] => True
  | p, (e, v) :: r => Row w e 171 [eP (hdE b r), eP p, eP b, eV v] ∧ DL w b e r
structure LL (w : World) (b : Nat) (es : List (Nat × Nat)) : Prop where
  root : ∃ pv, Row w b 173 [eP (hdE b es), pv, .pointer none, Value.nilIface, .int .i64 (es.length : Int)]
  dl : DL w b b es
  nd : (es.map Prod.fst).Nodup
theorem DL.upd {S : List Nat} {w w' : World} {b : Nat} (hu : Upd S w w') : ∀ {es : List (Nat × Nat)} {p : Nat}, DL w b p es → (∀ e, e ∈ es.map Prod.fst → e ∉ S) → DL w' b p es
  | [], _, _, _ => True.intro
  | (e, v) :: r, p, h, hn => ⟨h.1.upd hu (hn e (by simp)), DL.upd hu h.2 fun x hx => hn x (by simp only [List.map_cons, List.mem_cons]; exact .inr hx)⟩
theorem LL.upd {S : List Nat} {w w' : World} {b : Nat} {es : List (Nat × Nat)} (h : LL w b es) (hu : Upd S w w') (hb : b ∉ S) (hn : ∀ e, e ∈ es.map Prod.fst → e ∉ S) : LL w' b es := by
  obtain ⟨pv, hr⟩ := h.root
  exact ⟨⟨pv, hr.upd hu hb⟩, h.dl.upd hu hn, h.nd⟩
theorem LL.upd0 {w w' : World} {b : Nat} {es : List (Nat × Nat)} (h : LL w b es) (hu : Upd [] w w') : LL w' b es := h.upd hu (by simp) (by simp)
theorem DL.type {w : World} {b : Nat} : ∀ {es : List (Nat × Nat)} {p : Nat}, DL w b p es → ∀ e, e ∈ es.map Prod.fst → ∃ vs, Row w e 171 vs
  | [], _, _, e, he => by simp at he
  | (x, v) :: r, p, h, e, he => by
    simp only [List.map_cons, List.mem_cons] at he
    rcases he with rfl | he
    · exact ⟨_, h.1⟩
    · exact DL.type h.2 e he
theorem LL.out {w : World} {b : Nat} {es : List (Nat × Nat)} (h : LL w b es) {g : Nat} {ty : TypeId} {vs : List Value} (hr : Row w g ty vs) (h1 : ty ≠ 171) (h2 : ty ≠ 173) : g ∉ b :: es.map Prod.fst := by
  intro hm
  obtain ⟨pv, hb⟩ := h.root
  simp only [List.mem_cons] at hm
  rcases hm with rfl | hm
  · exact Row.ne_type hr hb h2 rfl
  · obtain ⟨_, he⟩ := h.dl.type g hm
    exact Row.ne_type hr he h1 rfl
theorem LL.lt {w : World} {b : Nat} {es : List (Nat × Nat)} (h : LL w b es) : ∀ e, e ∈ b :: es.map Prod.fst → e < w.heap.size := by
  intro e he
  obtain ⟨pv, hb⟩ := h.root
  simp only [List.mem_cons] at he
  rcases he with rfl | he
  · exact hb.lt
  · obtain ⟨_, hr⟩ := h.dl.type e he
    exact hr.lt
theorem DL.drop {w : World} {b : Nat} : ∀ {es : List (Nat × Nat)} {p : Nat} (k : Nat), DL w b p es → ∃ p', DL w b p' (es.drop k)
  | es, p, 0, h => ⟨p, h⟩
  | [], p, k + 1, h => ⟨p, True.intro⟩
  | (e, v) :: r, p, k + 1, h => DL.drop k h.2

theorem ptr_ne {w : World} {e b : Nat} {vs us : List Value} {ty ty' : TypeId} (he : Row w e ty vs) (hb : Row w b ty' us) (hne : e ≠ b) :
    (binOp .neq 169 (.pointer (some ⟨e, 0, none⟩)) (.pointer (some ⟨b, 0, none⟩))).run Tryz.prog w = .ok (.bool true) w := by
  obtain ⟨j, hj, hsz⟩ : ∃ j, Tryz.prog.info? 171 = some j ∧ j.size ≠ 0 := by
    have h := info171
    cases hi : Tryz.prog.info? 171 with
    | none => rw [hi] at h; simp at h
    | some j => rw [hi] at h; simp at h; exact ⟨j, rfl, by omega⟩
  obtain ⟨r, he⟩ := he
  obtain ⟨r', hb⟩ := hb
  have h : ∀ d : Nat, (Op.equalIn (d + 1) 169 (.pointer (some ⟨e, 0, none⟩)) (.pointer (some ⟨b, 0, none⟩))).run Tryz.prog w = .ok false w := fun d => by
    simp [Op.equalIn, run_underlying Tryz.underlying169, sizeOf, typeInfo, hj, hsz, run_sameAddr_other w (a := ⟨e, 0, none⟩) (b := ⟨b, 0, none⟩) (by simp [hne]) he hb]
  simp only [binOp]
  simp [Op.equal, Op.maxDepth, h 9999]
theorem ptr_same (w : World) (b : Nat) : (binOp .neq 169 (.pointer (some ⟨b, 0, none⟩)) (.pointer (some ⟨b, 0, none⟩))).run Tryz.prog w = .ok (.bool false) w := by
  obtain ⟨j, hj⟩ : ∃ j, Tryz.prog.info? 171 = some j := by
    have h := info171
    cases hi : Tryz.prog.info? 171 with
    | none => rw [hi] at h; simp at h
    | some j => exact ⟨j, rfl⟩
  have h : ∀ d : Nat, (Op.equalIn (d + 1) 169 (.pointer (some ⟨b, 0, none⟩)) (.pointer (some ⟨b, 0, none⟩))).run Tryz.prog w = .ok true w := fun d => by
    simp [Op.equalIn, run_underlying Tryz.underlying169, sizeOf, typeInfo, hj, run_sameAddr_same]
  simp only [binOp]
  simp [Op.equal, Op.maxDepth, h 9999]
theorem ptr_eq (w : World) (b : Nat) : (binOp .eql 146 (.pointer (some ⟨b, 0, none⟩)) (.pointer (some ⟨b, 0, none⟩))).run Tryz.prog w = .ok (.bool true) w := by
  obtain ⟨j, hj⟩ : ∃ j, Tryz.prog.info? 173 = some j := by
    have h := info173
    cases hi : Tryz.prog.info? 173 with
    | none => rw [hi] at h; simp at h
    | some j => exact ⟨j, rfl⟩
  exact run_eql_ptr_same w _ Tryz.underlying146 hj

set_option maxHeartbeats 2000000 in
set_option maxRecDepth 100000 in
theorem lInit_any (b : Nat) (a0 a1 : Value) (n : Int) (w : World) (h : Row w b 173 [a0, a1, .pointer none, Value.nilIface, .int .i64 n]) :
    Calls Tryz.prog 132 #[eP b] w fun e w' => e = .returned (eP b) ∧ LL w' b [] ∧ Upd [b] w w' := by
  have c0 := h.cell 0 (by simp)
  have c1 := h.cell 1 (by simp)
  have c4 := h.cell 4 (by simp)
  have f0 := h.free 0
  have f1 := h.free 1
  have f4 := h.free 4
  have HH : Hid (Row (((w.setCell ⟨b, 0, none⟩ (eP b)).setCell ⟨b, 1, none⟩ (eP b)).setCell ⟨b, 4, none⟩ (.int .i64 0)) b 173 [eP b, eP b, .pointer none, Value.nilIface, .int .i64 0]) := by
    have := ((h.set 0 (eP b) (by simp)).set 1 (eP b) (by simp)).set 4 (.int .i64 0) (by simp)
    exact this
  have HU : Hid (Upd [b] w (((w.setCell ⟨b, 0, none⟩ (eP b)).setCell ⟨b, 1, none⟩ (eP b)).setCell ⟨b, 4, none⟩ (.int .i64 0))) :=
    (((Upd.refl [b] w).setCell (p := ⟨b, 0, none⟩) (.inl (by simp)) _).setCell (p := ⟨b, 1, none⟩) (.inl (by simp)) _).setCell (p := ⟨b, 4, none⟩) (.inl (by simp)) _
  simp only [List.getElem_cons_zero, List.getElem_cons_succ] at c0 c1 c4
  clear h
  unfold eP at *
  go_enter Tryz.func132, Tryz.ntmps132
  go_wp2
  go_ret
  exact ⟨rfl, ⟨⟨_, HH.out⟩, True.intro, by simp⟩, HU.out⟩

set_option maxHeartbeats 2000000 in
set_option maxRecDepth 100000 in
theorem lNew_any (w : World) : Calls Tryz.prog 113 #[] w fun e w' => e = .returned (eP w.heap.size) ∧ LL w' w.heap.size [] ∧ Upd [] w w' := by
  have hr := Row.new w 173 [.pointer none, .pointer none, .pointer none, Value.nilIface, .int .i64 0]
  have hu : Upd [] w (w.alloc (.cells [.pointer none, .pointer none, .pointer none, Value.nilIface, .int .i64 0].toArray 173)) := (Upd.refl _ _).alloc _
  have hi := lInit_any w.heap.size _ _ _ _ hr
  have HU := Lib.hid hu
  clear hr hu
  unfold eP at hi ⊢
  go_enter Tryz.func113, Tryz.ntmps113
  go_wp2_with (go_at_call 132; refine hi.mono ?_; rintro e w1 ⟨rfl, h1, hu1⟩)
  go_ret
  exact ⟨rfl, h1, HU.out.step hu1 fun t ht => .inr (by simp at ht; omega)⟩

set_option maxHeartbeats 2000000 in
set_option maxRecDepth 100000 in
theorem lLen_any (b : Nat) (es : List (Nat × Nat)) (w : World) (h : LL w b es) : Calls Tryz.prog 133 #[eP b] w fun e w' => e = .returned (.int .i64 es.length) ∧ w = w' := by
  obtain ⟨pv, hr⟩ := h.root
  have c4 := hr.cell 4 (by simp)
  simp only [List.getElem_cons_zero, List.getElem_cons_succ] at c4
  clear h hr
  unfold eP
  go_enter Tryz.func133, Tryz.ntmps133
  go_wp2
  go_ret
  exact ⟨rfl, rfl⟩

set_option maxHeartbeats 2000000 in
set_option maxRecDepth 100000 in
theorem lFront_any (b : Nat) (es : List (Nat × Nat)) (w : World) (h : LL w b es) : Calls Tryz.prog 135 #[eP b] w fun e w' => e = .returned (frE es) ∧ w = w' := by
  obtain ⟨pv, hr⟩ := h.root
  have c4 := hr.cell 4 (by simp)
  have c0 := hr.cell 0 (by simp)
  simp only [List.getElem_cons_zero, List.getElem_cons_succ] at c4 c0
  clear h hr
  cases es with
  | nil =>
    unfold frE
    unfold eP at *
    simp only [List.length_nil] at c4
    go_enter Tryz.func135, Tryz.ntmps135
    go_wp2
    go_ret
    exact ⟨rfl, rfl⟩
  | cons x r =>
    obtain ⟨e, v⟩ := x
    unfold frE
    unfold eP at *
    have hb : (((r.length + 1 : Nat) : Int) == 0) = false := beq_eq_false_iff_ne.2 (by omega)
    simp only [List.length_cons, hdE] at c4 c0
    generalize ((r.length + 1 : Nat) : Int) = m at c4 hb
    go_enter Tryz.func135, Tryz.ntmps135
    go_wp2
    go_ret
    exact ⟨rfl, rfl⟩

set_option maxHeartbeats 2000000 in
set_option maxRecDepth 100000 in
theorem lNext_any (b p e v : Nat) (r : List (Nat × Nat)) (w : World) (h : DL w b p ((e, v) :: r)) {us : List Value} (hb : Row w b 173 us) : Calls Tryz.prog 136 #[eP e] w fun x w' => x = .returned (frE r) ∧ w = w' := by
  have c0 := h.1.cell 0 (by simp)
  have c2 := h.1.cell 2 (by simp)
  simp only [List.getElem_cons_zero, List.getElem_cons_succ] at c2 c0
  cases r with
  | nil =>
    have hq := ptr_same w b
    clear h hb
    unfold frE
    unfold eP at *
    simp only [hdE] at c0
    go_enter Tryz.func136, Tryz.ntmps136
    go_wp2
    all_goals go_ret
    all_goals exact ⟨rfl, rfl⟩
  | cons x r =>
    obtain ⟨e', v'⟩ := x
    have hq := ptr_ne h.2.1 hb (Row.ne_type h.2.1 hb (by decide))
    clear h hb
    unfold frE
    unfold eP at *
    simp only [hdE] at c0
    go_enter Tryz.func136, Tryz.ntmps136
    go_wp2
    all_goals go_ret
    all_goals exact ⟨rfl, rfl⟩
end Go.Proofs.YtjahmnenfknjgaaGreatDoor
namespace Go.Proofs.YtjahmnenfknjgaaGreatDoor
open Go.RowKit

theorem row_ne {w : World} {x b : Nat} {vs us : List Value} (h : Row w x 171 vs) (k : Row w b 173 us) : x ≠ b := Row.ne_type h k (by decide)

set_option maxHeartbeats 8000000 in
set_option maxRecDepth 100000 in
theorem lInsert_any (b f v : Nat) (es : List (Nat × Nat)) (w : World) (h : LL w b es) (hf : Row w f 171 [.pointer none, .pointer none, .pointer none, eV v]) (hnf : f ∉ es.map Prod.fst) (hl : es.length ≤ 4611686018427387904) :
    Calls Tryz.prog 150 #[eP b, eP f, eP b] w fun e w' => e = .returned (eP f) ∧ LL w' b ((f, v) :: es) ∧ Upd (f :: b :: es.map Prod.fst) w w' := by
  obtain ⟨pv, hr⟩ := h.root
  have hfb : f ≠ b := row_ne hf hr
  have hbf : b ≠ f := fun e => hfb e.symm
  have rc0 := hr.cell 0 (by simp)
  have rc1 := hr.cell 1 (by simp)
  have rc4 := hr.cell 4 (by simp)
  have rf0 := hr.free 0
  have rf1 := hr.free 1
  have rf4 := hr.free 4
  have fc0 := hf.cell 0 (by simp)
  have fc1 := hf.cell 1 (by simp)
  have fc2 := hf.cell 2 (by simp)
  have ff0 := hf.free 0
  have ff1 := hf.free 1
  have ff2 := hf.free 2
  simp only [List.getElem_cons_zero, List.getElem_cons_succ] at rc0 rc1 rc4 fc0 fc1 fc2
  cases es with
  | nil =>
    have G : Hid (∀ W, W = ((((((w.setCell ⟨f, 1, none⟩ (eP b)).setCell ⟨f, 0, none⟩ (eP b)).setCell ⟨b, 0, none⟩ (eP f)).setCell ⟨b, 1, none⟩ (eP f)).setCell ⟨f, 2, none⟩ (eP b)).setCell ⟨b, 4, none⟩ (.int .i64 1)) → LL W b [(f, v)] ∧ Upd [f, b] w W) := by
      rintro W rfl
      refine ⟨⟨⟨eP f, ?_⟩, ⟨?_, True.intro⟩, by simp⟩, ?_⟩
      · have h1 := (((((hr.other (p := ⟨f, 1, none⟩) hbf (eP b)).other (p := ⟨f, 0, none⟩) hbf (eP b)).set 0 (eP f) (by simp)).set 1 (eP f) (by simp)).other (p := ⟨f, 2, none⟩) hbf (eP b)).set 4 (.int .i64 1) (by simp)
        exact h1
      · have h1 := (((((hf.set 1 (eP b) (by simp)).set 0 (eP b) (by simp)).other (p := ⟨b, 0, none⟩) hfb (eP f)).other (p := ⟨b, 1, none⟩) hfb (eP f)).set 2 (eP b) (by simp)).other (p := ⟨b, 4, none⟩) hfb (.int .i64 1)
        exact h1
      · exact ((((((Upd.refl [f, b] w).setCell (p := ⟨f, 1, none⟩) (.inl (by simp)) _).setCell (p := ⟨f, 0, none⟩) (.inl (by simp)) _).setCell (p := ⟨b, 0, none⟩) (.inl (by simp)) _).setCell (p := ⟨b, 1, none⟩) (.inl (by simp)) _).setCell (p := ⟨f, 2, none⟩) (.inl (by simp)) _).setCell (p := ⟨b, 4, none⟩) (.inl (by simp)) _
    simp only [hdE, List.length_nil] at rc0 rc4
    clear h hr hf hnf
    unfold eP at *
    go_enter Tryz.func150, Tryz.ntmps150
    go_wp2
    go_ret
    obtain ⟨g1, g2⟩ := G.out _ rfl
    exact ⟨rfl, g1, g2⟩
  | cons x r =>
    obtain ⟨x, y⟩ := x
    have hx := h.dl.1
    have hxb : x ≠ b := row_ne hx hr
    have hbx : b ≠ x := fun e => hxb e.symm
    have hfx : f ≠ x := fun e => hnf (by simp [e])
    have hxf : x ≠ f := fun e => hfx e.symm
    have xc1 := hx.cell 1 (by simp)
    have xf1 := hx.free 1
    have hnd := h.nd
    have hrx : ∀ z, z ∈ r.map Prod.fst → z ∉ [f, b, x] := by
      intro z hz hm
      simp only [List.mem_cons, List.not_mem_nil, or_false] at hm
      obtain ⟨_, hzr⟩ := h.dl.2.type z hz
      rcases hm with rfl | rfl | rfl
      · exact hnf (by simp only [List.map_cons, List.mem_cons]; exact .inr hz)
      · exact row_ne hzr hr rfl
      · simp only [List.map_cons, List.nodup_cons] at hnd; exact hnd.1 hz
    have G : Hid (∀ W, W = ((((((w.setCell ⟨f, 1, none⟩ (eP b)).setCell ⟨f, 0, none⟩ (eP x)).setCell ⟨b, 0, none⟩ (eP f)).setCell ⟨x, 1, none⟩ (eP f)).setCell ⟨f, 2, none⟩ (eP b)).setCell ⟨b, 4, none⟩ (.int .i64 ((r.length : Int) + 1 + 1))) → LL W b ((f, v) :: (x, y) :: r) ∧ Upd [f, b, x] w W) := by
      rintro W rfl
      have hU := ((((((Upd.refl [f, b, x] w).setCell (p := ⟨f, 1, none⟩) (.inl (by simp)) (eP b)).setCell (p := ⟨f, 0, none⟩) (.inl (by simp)) (eP x)).setCell (p := ⟨b, 0, none⟩) (.inl (by simp)) (eP f)).setCell (p := ⟨x, 1, none⟩) (.inl (by simp)) (eP f)).setCell (p := ⟨f, 2, none⟩) (.inl (by simp)) (eP b)).setCell (p := ⟨b, 4, none⟩) (.inl (by simp)) (.int .i64 ((r.length : Int) + 1 + 1))
      refine ⟨⟨⟨pv, ?_⟩, ⟨?_, ?_, ?_⟩, ?_⟩, hU⟩
      · have h1 := (((((hr.other (p := ⟨f, 1, none⟩) hbf (eP b)).other (p := ⟨f, 0, none⟩) hbf (eP x)).set 0 (eP f) (by simp)).other (p := ⟨x, 1, none⟩) hbx (eP f)).other (p := ⟨f, 2, none⟩) hbf (eP b)).set 4 (.int .i64 ((r.length : Int) + 1 + 1)) (by simp)
        simpa [hdE] using h1
      · have h1 := (((((hf.set 1 (eP b) (by simp)).set 0 (eP x) (by simp)).other (p := ⟨b, 0, none⟩) hfb (eP f)).other (p := ⟨x, 1, none⟩) hfx (eP f)).set 2 (eP b) (by simp)).other (p := ⟨b, 4, none⟩) hfb (.int .i64 ((r.length : Int) + 1 + 1))
        exact h1
      · have h1 := (((((hx.other (p := ⟨f, 1, none⟩) hxf (eP b)).other (p := ⟨f, 0, none⟩) hxf (eP x)).other (p := ⟨b, 0, none⟩) hxb (eP f)).set 1 (eP f) (by simp)).other (p := ⟨f, 2, none⟩) hxf (eP b)).other (p := ⟨b, 4, none⟩) hxb (.int .i64 ((r.length : Int) + 1 + 1))
        exact h1
      · exact h.dl.2.upd hU hrx
      · simp only [List.map_cons, List.nodup_cons] at hnd ⊢
        refine ⟨?_, hnd⟩
        simpa using hnf
    simp only [hdE, List.length_cons, List.getElem_cons_zero, List.getElem_cons_succ] at rc0 rc4 xc1
    push_cast at rc4
    have hl' : r.length ≤ 4611686018427387904 := by simp only [List.length_cons] at hl; omega
    have HS : Hid (∀ W, Upd [f, b, x] w W → Upd (f :: b :: ((x, y) :: r).map Prod.fst) w W) := fun W hW => hW.mono (by intro t ht; simp only [List.mem_cons, List.not_mem_nil, or_false, List.map_cons] at ht ⊢; rcases ht with h | h | h <;> simp [h])
    clear h hr hf hnf hx hnd hrx hl
    unfold eP at *
    go_enter Tryz.func150, Tryz.ntmps150
    go_wp2
    go_ret
    obtain ⟨g1, g2⟩ := G.out _ rfl
    exact ⟨rfl, g1, HS.out _ g2⟩

set_option maxHeartbeats 4000000 in
set_option maxRecDepth 100000 in
theorem lInsertV_any (b v : Nat) (es : List (Nat × Nat)) (w : World) (h : LL w b es) (hl : es.length ≤ 4611686018427387904) :
    Calls Tryz.prog 143 #[eP b, eV v, eP b] w fun e w' => e = .returned (eP w.heap.size) ∧ LL w' b ((w.heap.size, v) :: es) ∧ Upd (b :: es.map Prod.fst) w w' := by
  have hr := Row.new w 171 [.pointer none, .pointer none, .pointer none, eV v]
  have hu : Upd [] w (w.alloc (.cells [.pointer none, .pointer none, .pointer none, eV v].toArray 171)) := (Upd.refl _ _).alloc _
  have hi := lInsert_any b w.heap.size v es _ (h.upd0 hu) hr (fun hm => by have := h.lt w.heap.size (by simp only [List.mem_cons]; exact .inr hm); omega) hl
  have HU : Hid (∀ W, Upd (w.heap.size :: b :: es.map Prod.fst) (w.alloc (.cells [.pointer none, .pointer none, .pointer none, eV v].toArray 171)) W → Upd (b :: es.map Prod.fst) w W) := fun W hW => (hu.mono (by simp)).step hW fun t ht => by
    simp only [List.mem_cons] at ht ⊢
    rcases ht with rfl | ht
    · right; exact Nat.le_refl _
    · left; exact ht
  clear h hr hu
  unfold eP eV at *
  go_enter Tryz.func143, Tryz.ntmps143
  go_wp2_with (go_at_call 150; refine hi.mono ?_; rintro e w1 ⟨rfl, h1, hu1⟩)
  go_ret
  exact ⟨rfl, h1, HU.out _ hu1⟩

set_option maxHeartbeats 4000000 in
set_option maxRecDepth 100000 in
theorem lPush_any (b v : Nat) (es : List (Nat × Nat)) (w : World) (h : LL w b es) (hl : es.length ≤ 4611686018427387904) :
    Calls Tryz.prog 134 #[eP b, eV v] w fun e w' => e = .returned (eP w.heap.size) ∧ LL w' b ((w.heap.size, v) :: es) ∧ Upd (b :: es.map Prod.fst) w w' := by
  obtain ⟨pv, hr⟩ := h.root
  have rc0 := hr.cell 0 (by simp)
  simp only [List.getElem_cons_zero, List.getElem_cons_succ] at rc0
  have hi := lInsertV_any b v es w h hl
  have hlazy : Calls Tryz.prog 142 #[eP b] w fun e w' => e = .returned (.tuple #[]) ∧ w = w' := by
    clear h hr hi
    unfold eP at *
    go_enter Tryz.func142, Tryz.ntmps142
    go_wp2
    go_end0
    exact ⟨rfl, rfl⟩
  clear h hr rc0
  unfold eP at *
  go_enter Tryz.func134, Tryz.ntmps134
  go_wp2_with (first
    | (go_at_call 142; refine hlazy.mono ?_; rintro e w1 ⟨rfl, rfl⟩)
    | (go_at_call 143; refine hi.mono ?_; rintro e w1 ⟨rfl, h1, hu1⟩))
  go_ret
  exact ⟨rfl, h1, hu1⟩
end Go.Proofs.YtjahmnenfknjgaaGreatDoor
namespace Go.Proofs.YtjahmnenfknjgaaGreatDoor
open Go.RowKit

set_option maxHeartbeats 8000000 in
set_option maxRecDepth 100000 in
theorem lRem_any (b x y : Nat) (r : List (Nat × Nat)) (w : World) (h : LL w b ((x, y) :: r)) (hl : r.length ≤ 4611686018427387904) :
    Calls Tryz.prog 144 #[eP b, eP x] w fun e w' => e = .returned (.tuple #[]) ∧ LL w' b r ∧ w'.cell? ⟨x, 3, none⟩ = some (eV y) ∧ Upd (b :: x :: r.map Prod.fst) w w' := by
  obtain ⟨pv, hr⟩ := h.root
  have hx := h.dl.1
  have hxb : x ≠ b := row_ne hx hr
  have hbx : b ≠ x := fun e => hxb e.symm
  have rc0 := hr.cell 0 (by simp)
  have rc1 := hr.cell 1 (by simp)
  have rc4 := hr.cell 4 (by simp)
  have rf0 := hr.free 0
  have rf1 := hr.free 1
  have rf4 := hr.free 4
  have xc0 := hx.cell 0 (by simp)
  have xc1 := hx.cell 1 (by simp)
  have xc2 := hx.cell 2 (by simp)
  have xf0 := hx.free 0
  have xf1 := hx.free 1
  have xf2 := hx.free 2
  simp only [List.getElem_cons_zero, List.getElem_cons_succ, List.length_cons] at rc0 rc1 rc4 xc0 xc1 xc2
  have hnd := h.nd
  cases r with
  | nil =>
    have G : Hid (∀ W, W = ((((((w.setCell ⟨b, 0, none⟩ (eP b)).setCell ⟨b, 1, none⟩ (eP b)).setCell ⟨x, 0, none⟩ (.pointer none)).setCell ⟨x, 1, none⟩ (.pointer none)).setCell ⟨x, 2, none⟩ (.pointer none)).setCell ⟨b, 4, none⟩ (.int .i64 0)).drew.drew → LL W b [] ∧ W.cell? ⟨x, 3, none⟩ = some (eV y) ∧ Upd [b, x] w W) := by
      rintro W rfl
      refine ⟨⟨⟨eP b, ?_⟩, True.intro, by simp⟩, ?_, ?_⟩
      · have h1 := (((((hr.set 0 (eP b) (by simp)).set 1 (eP b) (by simp)).other (p := ⟨x, 0, none⟩) hbx (.pointer none)).other (p := ⟨x, 1, none⟩) hbx (.pointer none)).other (p := ⟨x, 2, none⟩) hbx (.pointer none)).set 4 (.int .i64 0) (by simp)
        exact h1.drew.drew
      · have h1 := (((((hx.other (p := ⟨b, 0, none⟩) hxb (eP b)).other (p := ⟨b, 1, none⟩) hxb (eP b)).set 0 (.pointer none) (by simp)).set 1 (.pointer none) (by simp)).set 2 (.pointer none) (by simp)).other (p := ⟨b, 4, none⟩) hxb (.int .i64 0)
        exact h1.drew.drew.cell 3 (by simp)
      · exact (((((((Upd.refl [b, x] w).setCell (p := ⟨b, 0, none⟩) (.inl (by simp)) _).setCell (p := ⟨b, 1, none⟩) (.inl (by simp)) _).setCell (p := ⟨x, 0, none⟩) (.inl (by simp)) _).setCell (p := ⟨x, 1, none⟩) (.inl (by simp)) _).setCell (p := ⟨x, 2, none⟩) (.inl (by simp)) _).setCell (p := ⟨b, 4, none⟩) (.inl (by simp)) _).drew.drew
    simp only [hdE, List.length_nil] at rc0 rc4 xc0
    clear h hr hx hnd
    unfold eP at *
    go_enter Tryz.func144, Tryz.ntmps144
    go_wp2
    go_region
    all_goals (try go_wp2)
    all_goals go_region
    all_goals (try go_wp2)
    all_goals go_end0
    all_goals
      obtain ⟨g1, g2, g3⟩ := G.out _ rfl
      exact ⟨rfl, g1, g2, g3⟩
  | cons z r =>
    obtain ⟨z, t⟩ := z
    have hz := h.dl.2.1
    have hzb : z ≠ b := row_ne hz hr
    have hbz : b ≠ z := fun e => hzb e.symm
    have hxz : x ≠ z := by
      rintro rfl
      simp only [List.map_cons, List.nodup_cons, List.mem_cons] at hnd
      exact hnd.1 (by simp)
    have hzx : z ≠ x := fun e => hxz e.symm
    have zc1 := hz.cell 1 (by simp)
    have zf1 := hz.free 1
    have hrx : ∀ q, q ∈ r.map Prod.fst → q ∉ [b, x, z] := by
      intro q hq hm
      simp only [List.mem_cons, List.not_mem_nil, or_false] at hm
      obtain ⟨_, hqr⟩ := h.dl.2.2.type q hq
      simp only [List.map_cons, List.nodup_cons, List.mem_cons] at hnd
      rcases hm with rfl | rfl | rfl
      · exact row_ne hqr hr rfl
      · exact hnd.1 (.inr hq)
      · exact hnd.2.1 hq
    have G : Hid (∀ W, W = ((((((w.setCell ⟨b, 0, none⟩ (eP z)).setCell ⟨z, 1, none⟩ (eP b)).setCell ⟨x, 0, none⟩ (.pointer none)).setCell ⟨x, 1, none⟩ (.pointer none)).setCell ⟨x, 2, none⟩ (.pointer none)).setCell ⟨b, 4, none⟩ (.int .i64 ((r.length : Int) + 1))).drew.drew → LL W b ((z, t) :: r) ∧ W.cell? ⟨x, 3, none⟩ = some (eV y) ∧ Upd [b, x, z] w W) := by
      rintro W rfl
      have hU := (((((((Upd.refl [b, x, z] w).setCell (p := ⟨b, 0, none⟩) (.inl (by simp)) (eP z)).setCell (p := ⟨z, 1, none⟩) (.inl (by simp)) (eP b)).setCell (p := ⟨x, 0, none⟩) (.inl (by simp)) (.pointer none)).setCell (p := ⟨x, 1, none⟩) (.inl (by simp)) (.pointer none)).setCell (p := ⟨x, 2, none⟩) (.inl (by simp)) (.pointer none)).setCell (p := ⟨b, 4, none⟩) (.inl (by simp)) (.int .i64 ((r.length : Int) + 1))).drew.drew
      refine ⟨⟨⟨pv, ?_⟩, ⟨?_, ?_⟩, ?_⟩, ?_, hU⟩
      · have h1 := (((((hr.set 0 (eP z) (by simp)).other (p := ⟨z, 1, none⟩) hbz (eP b)).other (p := ⟨x, 0, none⟩) hbx (.pointer none)).other (p := ⟨x, 1, none⟩) hbx (.pointer none)).other (p := ⟨x, 2, none⟩) hbx (.pointer none)).set 4 (.int .i64 ((r.length : Int) + 1)) (by simp)
        have h2 := h1.drew.drew
        simpa [hdE] using h2
      · have h1 := (((((hz.other (p := ⟨b, 0, none⟩) hzb (eP z)).set 1 (eP b) (by simp)).other (p := ⟨x, 0, none⟩) hzx (.pointer none)).other (p := ⟨x, 1, none⟩) hzx (.pointer none)).other (p := ⟨x, 2, none⟩) hzx (.pointer none)).other (p := ⟨b, 4, none⟩) hzb (.int .i64 ((r.length : Int) + 1))
        exact h1.drew.drew
      · exact h.dl.2.2.upd hU hrx
      · simp only [List.map_cons, List.nodup_cons] at hnd ⊢
        exact hnd.2
      · have h1 := (((((hx.other (p := ⟨b, 0, none⟩) hxb (eP z)).other (p := ⟨z, 1, none⟩) hxz (eP b)).set 0 (.pointer none) (by simp)).set 1 (.pointer none) (by simp)).set 2 (.pointer none) (by simp)).other (p := ⟨b, 4, none⟩) hxb (.int .i64 ((r.length : Int) + 1))
        exact h1.drew.drew.cell 3 (by simp)
    simp only [hdE, List.length_cons, List.getElem_cons_zero, List.getElem_cons_succ] at rc0 rc4 xc0 zc1
    push_cast at rc4
    have hl' : r.length ≤ 4611686018427387904 := by simp only [List.length_cons] at hl; omega
    have hsub : (r.length : Int) + 1 + 1 - 1 = (r.length : Int) + 1 := by omega
    have HS : Hid (∀ W, Upd [b, x, z] w W → Upd (b :: x :: ((z, t) :: r).map Prod.fst) w W) := fun W hW => hW.mono (by intro q hq; simp only [List.mem_cons, List.not_mem_nil, or_false, List.map_cons] at hq ⊢; rcases hq with h | h | h <;> simp [h])
    clear h hr hx hz hnd hrx hl
    unfold eP at *
    go_enter Tryz.func144, Tryz.ntmps144
    go_wp2
    go_region
    all_goals (try go_wp2)
    all_goals go_region
    all_goals (try go_wp2)
    all_goals go_end0
    all_goals
      obtain ⟨g1, g2, g3⟩ := G.out _ rfl
      exact ⟨rfl, g1, g2, HS.out _ g3⟩

set_option maxHeartbeats 4000000 in
set_option maxRecDepth 100000 in
theorem lRemove_any (b x y : Nat) (r : List (Nat × Nat)) (w : World) (h : LL w b ((x, y) :: r)) (hl : r.length ≤ 4611686018427387904) :
    Calls Tryz.prog 138 #[eP b, eP x] w fun e w' => e = .returned (eV y) ∧ LL w' b r ∧ Upd (b :: x :: r.map Prod.fst) w w' := by
  have xc2 := h.dl.1.cell 2 (by simp)
  simp only [List.getElem_cons_zero, List.getElem_cons_succ] at xc2
  have hi := lRem_any b x y r w h hl
  have hq := ptr_eq w b
  clear h
  unfold eP eV at *
  go_enter Tryz.func138, Tryz.ntmps138
  go_wp2_with (go_at_call 144; refine hi.mono ?_; rintro e w1 ⟨rfl, h1, c3, hu1⟩)
  go_ret
  exact ⟨rfl, h1, hu1⟩
end Go.Proofs.YtjahmnenfknjgaaGreatDoor
namespace Go.Proofs.YtjahmnenfknjgaaGreatDoor
open Go.RowKit

theorem info151 : (Tryz.prog.info? 151).map (fun i => (i.zero, i.size, i.bytes)) = some (some (.agg #[.int .u64 0, .pointer none, .slice none 0 0, .slice none 0 0, .slice none 0 0]), 5, 88) := by kernel_rfl
/-- L, R or ON: the type that counts in N0. -/
def stp (c : Cl) : Cl := match c with | .EN => .R | .AN => .R | .AL => .R | .R => .R | .L => .L | _ => .ON
theorem stp_stg {c : Cl} (h : isN c = true) : stp c = (stg c).getD .ON := by cases c <;> first | rfl | (exact absurd h (by decide))
/-- The pairer at block b. -/
def BQ (w : World) (b : Nat) (so : Cl) (lb : Nat) (pv : Value) (gt n ct gi ic : Nat) : Prop :=
  Row w b 151 [.int .u64 so.e2, eP lb, pv, .slice (some ⟨gt, 0, none⟩) n ct, .slice (some ⟨gi, 0, none⟩) n ic]
structure BQC (w : World) (b : Nat) (so : Cl) (lb : Nat) (pv : Value) (gt n ct gi ic : Nat) : Prop where
  c0 : w.cell? ⟨b, 0, none⟩ = some (.int .u64 so.e2)
  c1 : w.cell? ⟨b, 1, none⟩ = some (.pointer (some ⟨lb, 0, none⟩))
  c2 : w.cell? ⟨b, 2, none⟩ = some pv
  c3 : w.cell? ⟨b, 3, none⟩ = some (.slice (some ⟨gt, 0, none⟩) n ct)
  c4 : w.cell? ⟨b, 4, none⟩ = some (.slice (some ⟨gi, 0, none⟩) n ic)
theorem BQ.cells {w : World} {b : Nat} {so : Cl} {lb : Nat} {pv : Value} {gt n ct gi ic : Nat} (h : BQ w b so lb pv gt n ct gi ic) : BQC w b so lb pv gt n ct gi ic :=
  ⟨Row.cell h 0 (by simp), Row.cell h 1 (by simp), Row.cell h 2 (by simp), Row.cell h 3 (by simp), Row.cell h 4 (by simp)⟩
theorem BQ.upd {S : List Nat} {w w' : World} {b : Nat} {so : Cl} {lb : Nat} {pv : Value} {gt n ct gi ic : Nat} (h : BQ w b so lb pv gt n ct gi ic) (hu : Upd S w w') (hn : b ∉ S) : BQ w' b so lb pv gt n ct gi ic := Row.upd h hu hn

set_option maxHeartbeats 4000000 in
set_option maxRecDepth 100000 in
theorem stN0_any (b gt n ct i : Nat) (l : List Cl) (w : World) (h3 : w.cell? ⟨b, 3, none⟩ = some (.slice (some ⟨gt, 0, none⟩) n ct)) (ht : Row w gt 77 (clsU l)) (hn : l.length = n) (hm : n ≤ 2147483647) (hi : i < n) :
    Calls Tryz.prog 161 #[.pointer (some ⟨b, 0, none⟩), .int .i64 i] w fun e w' => e = .returned (.int .u64 (stp (cat l i)).e2) ∧ w = w' := by
  have c := ht.cls i (by omega)
  clear ht hn
  generalize cat l i = x at c ⊢
  cases x
  all_goals
    simp only [stp, Cl.e2] at c ⊢
    go_enter Tryz.func161, Tryz.ntmps161
    go_wp2
    go_ret
    exact ⟨rfl, rfl⟩

/-- What a pair holds: the direction if it occurs, the other one if only that does, else ON. -/
def clsf (l : List Cl) (way : Cl) : Nat → Nat → Cl → Cl
  | 0, _, acc => acc
  | f + 1, i, acc => if stp (cat l i) = .ON then clsf l way f (i + 1) acc else if stp (cat l i) = way then way else clsf l way f (i + 1) (stp (cat l i))
theorem clsf_end (l : List Cl) (way : Cl) (i : Nat) (acc : Cl) : clsf l way 0 i acc = acc := rfl

set_option maxHeartbeats 8000000 in
set_option maxRecDepth 100000 in
theorem classify_any (b gt n ct x y : Nat) (way : Cl) (l : List Cl) (w : World) (h3 : w.cell? ⟨b, 3, none⟩ = some (.slice (some ⟨gt, 0, none⟩) n ct)) (ht : Row w gt 77 (clsU l)) (hn : l.length = n) (hm : n ≤ 2147483647) (hx : x < y) (hy : y < n) :
    Calls Tryz.prog 147 #[.pointer (some ⟨b, 0, none⟩), .agg #[.int .i64 x, .int .i64 y], .int .u64 way.e2] w fun e w' => e = .returned (.int .u64 (clsf l way (y - (x + 1)) (x + 1) .ON).e2) ∧ Upd [] w w' := by
  have hbx := Row.new w 179 [.int .i64 x, .int .i64 y]
  have b0 := hbx.cell 0 (by simp)
  have b1 := hbx.cell 1 (by simp)
  simp only [List.getElem_cons_zero, List.getElem_cons_succ] at b0 b1
  have hu : Upd [] w (w.alloc (.cells [.int .i64 x, .int .i64 y].toArray 179)) := (Upd.refl _ _).alloc _
  have hS : Hid (∀ W, W = w.alloc (.cells [.int .i64 x, .int .i64 y].toArray 179) → W.cell? ⟨b, 3, none⟩ = some (.slice (some ⟨gt, 0, none⟩) n ct) ∧ Row W gt 77 (clsU l) ∧ W.cell? ⟨w.heap.size, 0, none⟩ = some (.int .i64 x) ∧ W.cell? ⟨w.heap.size, 1, none⟩ = some (.int .i64 y) ∧ Upd [] w W) := by
    rintro W rfl; exact ⟨hu.cell h3 (by simp), ht.upd hu (by simp), b0, b1, hu⟩
  have HN := Lib.hid hn
  clear hbx b0 b1 hu h3 ht hn
  go_enter Tryz.func147, Tryz.ntmps147
  go_wp2
  go_loopg [7, 8] (y + 1) (fun k s7 s8 wr => ∃ (i : Nat) (acc : Cl), s7 = .int .u64 acc.e2 ∧ s8 = .int .i64 i ∧ i ≤ y ∧ Hid (wr = w.alloc (.cells [.int .i64 x, .int .i64 y].toArray 179)) ∧ Hid (clsf l way (y - i) i acc = clsf l way (y - (x + 1)) (x + 1) .ON) ∧ Hid (y - i ≤ k))
  case atStart => exact ⟨x + 1, .ON, rfl, by go_num, by omega, rfl, rfl, by show _ ≤ _; omega⟩
  case round =>
    obtain ⟨i, acc, rfl, rfl, hiy, hW, HC, hk⟩ := hrel
    obtain ⟨c3, ht, c0, c1, hu⟩ := hS.out wr hW.out
    by_cases hlt : i < y
    · have hyi : y - i = (y - (i + 1)) + 1 := by omega
      have hc := stN0_any b gt n ct i l wr c3 ht HN.out hm (by omega)
      have hC := HC.out
      rw [hyi, clsf] at hC
      obtain ⟨v, hv⟩ : ∃ v, v = stp (cat l i) := ⟨_, rfl⟩
      rw [← hv] at hc hC
      have b10 : (v.e2 == 10) = decide (v = .ON) := Cl.e2_beq v .ON
      have bw : (v.e2 == way.e2) = decide (v = way) := Cl.e2_beq v way
      clear hyi hv c3 ht
      by_cases h1 : v = .ON
      · rw [if_pos h1] at hC
        rw [decide_eq_true h1] at b10
        have HC2 := Lib.hid hC
        clear hC h1 bw
        go_wp2_with (go_at_call 161; refine hc.mono ?_; rintro e w' ⟨rfl, rfl⟩)
        go_roundg (y - (i + 1))
        case measure => have := hk.out; omega
        case rel => exact ⟨i + 1, acc, rfl, by go_num, by omega, hW, HC2.out, Nat.le_refl _⟩
      · rw [if_neg h1] at hC
        rw [decide_eq_false h1] at b10
        by_cases h2 : v = way
        · rw [if_pos h2] at hC
          rw [decide_eq_true h2] at bw
          have HC2 : Hid (clsf l way (y - (x + 1)) (x + 1) .ON = v) := by show _ = _; rw [← hC, h2]
          clear hC h1 h2
          go_wp2_with (go_at_call 161; refine hc.mono ?_; rintro e w' ⟨rfl, rfl⟩)
          go_ret
          exact ⟨by rw [HC2.out]; rfl, hu⟩
        · rw [if_neg h2] at hC
          rw [decide_eq_false h2] at bw
          have HC2 := Lib.hid hC
          clear hC h1 h2
          go_wp2_with (go_at_call 161; refine hc.mono ?_; rintro e w' ⟨rfl, rfl⟩)
          go_roundg (y - (i + 1))
          case measure => have := hk.out; omega
          case rel => exact ⟨i + 1, v, rfl, by go_num, by omega, hW, HC2.out, Nat.le_refl _⟩
    · have HE : Hid (clsf l way (y - (x + 1)) (x + 1) .ON = acc) := by show _ = _; rw [← HC.out, show y - i = 0 by omega]; rfl
      clear c3 ht
      go_wp2
      go_ret
      exact ⟨by rw [HE.out]; rfl, hu⟩

/-- The last type that counts ahead of place k, else sos. -/
def ctxP (l : List Cl) (st : Cl) : Nat → Cl
  | 0 => st
  | k + 1 => if stp (cat l k) = .ON then ctxP l st k else stp (cat l k)

set_option maxHeartbeats 8000000 in
set_option maxRecDepth 100000 in
theorem before_pair_any (b gt n ct x y : Nat) (so : Cl) (l : List Cl) (w : World) (h0 : w.cell? ⟨b, 0, none⟩ = some (.int .u64 so.e2)) (h3 : w.cell? ⟨b, 3, none⟩ = some (.slice (some ⟨gt, 0, none⟩) n ct)) (ht : Row w gt 77 (clsU l)) (hn : l.length = n) (hm : n ≤ 2147483647) (hx : x < n) :
    Calls Tryz.prog 148 #[.pointer (some ⟨b, 0, none⟩), .agg #[.int .i64 x, .int .i64 y]] w fun e w' => e = .returned (.int .u64 (ctxP l so x).e2) ∧ Upd [] w w' := by
  have hbx := Row.new w 179 [.int .i64 x, .int .i64 y]
  have b0 := hbx.cell 0 (by simp)
  simp only [List.getElem_cons_zero, List.getElem_cons_succ] at b0
  have hu : Upd [] w (w.alloc (.cells [.int .i64 x, .int .i64 y].toArray 179)) := (Upd.refl _ _).alloc _
  have hS : Hid (∀ W, W = w.alloc (.cells [.int .i64 x, .int .i64 y].toArray 179) → W.cell? ⟨b, 0, none⟩ = some (.int .u64 so.e2) ∧ W.cell? ⟨b, 3, none⟩ = some (.slice (some ⟨gt, 0, none⟩) n ct) ∧ Row W gt 77 (clsU l) ∧ W.cell? ⟨w.heap.size, 0, none⟩ = some (.int .i64 x) ∧ Upd [] w W) := by
    rintro W rfl; exact ⟨hu.cell h0 (by simp), hu.cell h3 (by simp), ht.upd hu (by simp), b0, hu⟩
  have HN := Lib.hid hn
  clear hbx b0 hu h3 ht hn h0
  go_enter Tryz.func148, Tryz.ntmps148
  go_wp2
  go_loopg [5] (x + 1) (fun k s5 wr => ∃ (i : Nat), s5 = .int .i64 ((i : Int) - 1) ∧ i ≤ x ∧ Hid (wr = w.alloc (.cells [.int .i64 x, .int .i64 y].toArray 179)) ∧ Hid (ctxP l so i = ctxP l so x) ∧ Hid (i ≤ k))
  case atStart => exact ⟨x, rfl, Nat.le_refl _, rfl, rfl, by show _ ≤ _; omega⟩
  case round =>
    obtain ⟨i, rfl, hix, hW, HC, hk⟩ := hrel
    obtain ⟨c0, c3, ht, cx, hu⟩ := hS.out wr hW.out
    by_cases hi0 : i = 0
    · subst hi0
      have HE : Hid (ctxP l so x = so) := by show _ = _; rw [← HC.out]; rfl
      clear c3 ht
      go_wp2
      go_ret
      exact ⟨by rw [HE.out]; rfl, hu⟩
    · obtain ⟨j, hj⟩ : ∃ j, j = i - 1 := ⟨_, rfl⟩
      have ej : (i : Int) - 1 = j := by omega
      have hij : i = j + 1 := by omega
      have hC := HC.out
      rw [hij, ctxP] at hC
      have hjn : j < n := by omega
      have hjx : j ≤ x := by omega
      have HJ := Lib.hid hij
      have hc := stN0_any b gt n ct j l wr c3 ht HN.out hm hjn
      obtain ⟨v, hv⟩ : ∃ v, v = stp (cat l j) := ⟨_, rfl⟩
      rw [← hv] at hc hC
      rw [ej]
      have b10 : (v.e2 != 10) = !(decide (v = .ON)) := by show (!(v.e2 == Cl.ON.e2)) = _; rw [Cl.e2_beq]
      clear hv c3 ht hj hij ej hi0
      by_cases h1 : v = .ON
      · rw [if_pos h1] at hC
        rw [decide_eq_true h1] at b10
        have HC2 := Lib.hid hC
        simp only [Bool.not_true] at b10
        clear hC h1
        go_wp2_with (go_at_call 161; refine hc.mono ?_; rintro e w' ⟨rfl, rfl⟩)
        go_roundg j
        case measure => have := hk.out; have := HJ.out; omega
        case rel => exact ⟨j, rfl, hjx, hW, HC2.out, Nat.le_refl _⟩
      · rw [if_neg h1] at hC
        rw [decide_eq_false h1] at b10
        have HC2 := Lib.hid hC
        simp only [Bool.not_false] at b10
        clear hC h1
        go_wp2_with (go_at_call 161; refine hc.mono ?_; rintro e w' ⟨rfl, rfl⟩)
        go_ret
        exact ⟨by rw [← HC2.out]; rfl, hu⟩
end Go.Proofs.YtjahmnenfknjgaaGreatDoor
namespace Go.Proofs.YtjahmnenfknjgaaGreatDoor
open Go.RowKit

theorem cat_cIni {cs : List Cl} {pl : List Nat} {i : Nat} (h : i < pl.length) : cat (cIni cs pl) i = cat cs (nat pl i) := by
  simp [cIni, cat, nat, h]
theorem fillN_go {ini : List Cl} {t : Cl} {f k : Nat} {out : List Cl} (h : k < out.length) (h' : cat ini k = .NSM) : fillN ini t (f + 1) k out = fillN ini t f (k + 1) (out.set k t) := by rw [fillN, if_pos ⟨h, h'⟩]
theorem fillN_stop {ini : List Cl} {t : Cl} {f k : Nat} {out : List Cl} (h : ¬ (k < out.length ∧ cat ini k = .NSM)) : fillN ini t f k out = out := by
  cases f with
  | zero => rfl
  | succ f => rw [fillN, if_neg h]
/-- More fuel than places changes nothing. -/
theorem fillN_fuel {ini : List Cl} {t : Cl} : ∀ (f g k : Nat) (out : List Cl), out.length ≤ f + k → out.length ≤ g + k → fillN ini t f k out = fillN ini t g k out
  | 0, g, k, out, h1, h2 => by rw [fillN_stop (by omega), fillN_stop (by omega)]
  | f + 1, 0, k, out, h1, h2 => by rw [fillN_stop (by omega), fillN_stop (by omega)]
  | f + 1, g + 1, k, out, h1, h2 => by
    by_cases h : k < out.length ∧ cat ini k = .NSM
    · rw [fillN_go h.1 h.2, fillN_go h.1 h.2]
      exact fillN_fuel f g (k + 1) _ (by simp; omega) (by simp; omega)
    · rw [fillN_stop h, fillN_stop h]
theorem fillN_set {ini : List Cl} {t : Cl} {y : Nat} (hy : cat ini y ≠ .NSM) : ∀ (f k : Nat) (out : List Cl), fillN ini t f k (out.set y t) = (fillN ini t f k out).set y t
  | 0, k, out => rfl
  | f + 1, k, out => by
    by_cases h : k < out.length ∧ cat ini k = .NSM
    · rw [fillN_go h.1 h.2, fillN_go (by simpa using h.1) h.2]
      have : k ≠ y := by rintro rfl; exact hy h.2
      rw [List.set_comm _ _ (fun e => this e.symm)]
      exact fillN_set hy f (k + 1) _
    · rw [fillN_stop h, fillN_stop (by simpa using h)]
theorem nset_two {ini l : List Cl} {t : Cl} {x y : Nat} (hy : cat ini y ≠ .NSM) : nset ini t y (nset ini t x l) = fillN ini t l.length (y + 1) (fillN ini t l.length (x + 1) ((l.set x t).set y t)) := by
  unfold nset
  rw [fillN_set hy l.length (x + 1) (l.set x t), fillN_length, List.length_set]

set_option maxHeartbeats 8000000 in
set_option maxRecDepth 100000 in
theorem setBr_any (b gt n ct gi ic x y g0 N k0 : Nat) (t : Cl) (l cs : List Cl) (pl : List Nat) (w : World)
    (h3 : w.cell? ⟨b, 3, none⟩ = some (.slice (some ⟨gt, 0, none⟩) n ct)) (h4 : w.cell? ⟨b, 4, none⟩ = some (.slice (some ⟨gi, 0, none⟩) n ic)) (ht : Row w gt 77 (clsU l)) (hi : Row w gi 3 (nums .i64 (nats pl))) (h0 : Row w g0 77 (clsU cs))
    (hn : l.length = n) (hp : pl.length = n) (hc : cs.length = N) (hm : n ≤ 2147483647) (hM : N ≤ 2147483647) (hx : x < y) (hy : y < n) (hpl : ∀ q, q ∈ pl → q < N) (hne : g0 ≠ gt) (hbt : b ≠ gt) (hini : cat (cIni cs pl) y ≠ .NSM) :
    Calls Tryz.prog 149 #[.pointer (some ⟨b, 0, none⟩), .agg #[.int .i64 x, .int .i64 y], .int .u64 t.e2, .slice (some ⟨g0, 0, none⟩) N k0] w fun e w' => e = .returned (.tuple #[]) ∧ Row w' gt 77 (clsU (nset (cIni cs pl) t y (nset (cIni cs pl) t x l))) ∧ Upd [gt] w w' := by
  rw [nset_two hini, hn]
  have hgi : gi ≠ gt := hi.ne_type ht (by decide)
  have hbx := Row.new w 179 [.int .i64 x, .int .i64 y]
  have b0 := hbx.cell 0 (by simp)
  have b1 := hbx.cell 1 (by simp)
  simp only [List.getElem_cons_zero, List.getElem_cons_succ] at b0 b1
  have hu : Upd [] w (w.alloc (.cells [.int .i64 x, .int .i64 y].toArray 179)) := (Upd.refl _ _).alloc _
  have hgw : w.heap.size ≠ gt := by have := ht.lt; omega
  have hS : Hid (∀ W, Upd [gt] (w.alloc (.cells [.int .i64 x, .int .i64 y].toArray 179)) W → W.cell? ⟨b, 3, none⟩ = some (.slice (some ⟨gt, 0, none⟩) n ct) ∧ W.cell? ⟨b, 4, none⟩ = some (.slice (some ⟨gi, 0, none⟩) n ic) ∧ Row W gi 3 (nums .i64 (nats pl)) ∧ Row W g0 77 (clsU cs) ∧
      W.cell? ⟨w.heap.size, 0, none⟩ = some (.int .i64 x) ∧ W.cell? ⟨w.heap.size, 1, none⟩ = some (.int .i64 y) ∧ Upd [gt] w W) := fun W hW =>
    ⟨hW.cell (hu.cell h3 (by simp)) (by simpa using hbt), hW.cell (hu.cell h4 (by simp)) (by simpa using hbt), (hi.upd hu (by simp)).upd hW (by simpa using hgi), (h0.upd hu (by simp)).upd hW (by simpa using hne), hW.cell b0 (by simpa using hgw), hW.cell b1 (by simpa using hgw), (hu.mono (by simp)).trans hW⟩
  have HT0 := Lib.hid (ht.upd hu (by simp))
  have f1 := (ht.upd hu (by simp)).free x
  have f2 := (ht.upd hu (by simp)).free y
  have k1 := (ht.upd hu (by simp)).cls x (by omega)
  have k2 := (ht.upd hu (by simp)).cls y (by omega)
  obtain ⟨d3, d4, dI, d0, dx, dy, dU⟩ := hS.out _ (Upd.refl _ _)
  have HN := Lib.hid hn
  have HP := Lib.hid hp
  have HC := Lib.hid hc
  have HPL := Lib.hid hpl
  have HINI := Lib.hid hini
  clear hbx b0 b1 hu h3 h4 ht hi h0 hn hp hc hpl dI d0 dU hini hgi hne
  have hbt' : gt ≠ b := fun e => hbt e.symm
  have hgw' : gt ≠ w.heap.size := fun e => hgw e.symm
  have hxy : x ≠ y := by omega
  go_enter Tryz.func149, Tryz.ntmps149
  go_wp2
  go_region
  all_goals (try go_wp2)
  all_goals go_region
  all_goals (try go_wp2)
  -- the two brackets are set
  all_goals
    have hR0 := ((HT0.out.setCls x t (by rw [HN.out]; omega)).setCls y t (by rw [List.length_set, HN.out]; omega)).drew.drew
    have hU0 := ((((Upd.refl [gt] (w.alloc (.cells [.int .i64 x, .int .i64 y].toArray 179))).setCell (p := ⟨gt, x, none⟩) (.inl (by simp)) (.int .u64 t.e2)).setCell (p := ⟨gt, y, none⟩) (.inl (by simp)) (.int .u64 t.e2)).drew).drew
    obtain ⟨a3, a4, aI, a0, ax, ay, aU⟩ := hS.out _ hU0
    have HR0 := Lib.hid hR0
    have HU0 := Lib.hid hU0
    clear hR0 hU0 aI a0 aU d3 d4 dx dy k1 k2 f1 f2
    generalize (((w.alloc (.cells #[.int .i64 x, .int .i64 y] 179)).setCell ⟨gt, x, none⟩ (.int .u64 t.e2)).setCell ⟨gt, y, none⟩ (.int .u64 t.e2)).drew.drew = W0 at *
    go_loopg [8] (n + 1) (fun k s8 wr => ∃ (i : Nat) (m : List Cl), s8 = .int .i64 i ∧ x + 1 ≤ i ∧ i ≤ y ∧ Hid (m.length = n) ∧ Row wr gt 77 (clsU m) ∧ Upd [gt] (w.alloc (.cells [.int .i64 x, .int .i64 y].toArray 179)) wr ∧ Hid (fillN (cIni cs pl) t n i m = fillN (cIni cs pl) t n (x + 1) ((l.set x t).set y t)) ∧ Hid (y - i ≤ k))
    case atStart => exact ⟨x + 1, ((l.set x t).set y t), by go_num, Nat.le_refl _, by omega, by show _ = _; rw [List.length_set, List.length_set, HN.out], HR0.out, HU0.out, rfl, by show _ ≤ _; omega⟩
    case round =>
      obtain ⟨i, m, rfl, hlo, hhi, hml, hR, hU, HF, hk⟩ := hrel
      obtain ⟨a3, a4, aI, a0, ax, ay, aU⟩ := hS.out _ hU
      by_cases hlt : i < y
      · have hin : i < n := by omega
        have ci := aI.num i (by rw [nats_length, HP.out]; exact hin)
        rw [nth_nats (by rw [HP.out]; exact hin)] at ci
        have hz := HPL.out (nat pl i) (nat_mem (by rw [HP.out]; exact hin))
        have cz := a0.cls (nat pl i) (by rw [HC.out]; exact hz)
        have ft := hR.free i
        have ct' := hR.cls i (by rw [hml.out]; exact hin)
        have hcc := cat_cIni (cs := cs) (pl := pl) (i := i) (by rw [HP.out]; exact hin)
        rw [← hcc] at cz
        have b12 : ((cat (cIni cs pl) i).e2 != 12) = !(decide (cat (cIni cs pl) i = .NSM)) := by show (!((cat (cIni cs pl) i).e2 == Cl.NSM.e2)) = _; rw [Cl.e2_beq]
        have HS1 := Lib.hid (hR.setCls i t (by rw [hml.out]; exact hin))
        have HRR := Lib.hid hR
        obtain ⟨v, hv⟩ : ∃ v, v = cat (cIni cs pl) i := ⟨_, rfl⟩
        obtain ⟨z, hzz⟩ : ∃ z, z = nat pl i := ⟨_, rfl⟩
        rw [← hv] at cz b12
        rw [← hzz] at ci cz hz
        have HV := Lib.hid hv
        clear hv hcc hzz aI a0 hR
        by_cases h1 : v = .NSM
        · have HG : Hid (fillN (cIni cs pl) t n (i + 1) (m.set i t) = fillN (cIni cs pl) t n (x + 1) ((l.set x t).set y t)) := by
            show _ = _; rw [← HF.out, fillN_fuel n (n + 1) i m (by rw [hml.out]; omega) (by rw [hml.out]; omega), fillN_go (by rw [hml.out]; exact hin) (by rw [← HV.out]; exact h1)]
          rw [decide_eq_true h1] at b12
          simp only [Bool.not_true] at b12
          clear h1
          go_wp2
          go_roundg (y - (i + 1))
          case measure => have := hk.out; omega
          case rel => exact ⟨i + 1, m.set i t, by go_num, by omega, by omega, by show _ = _; rw [List.length_set]; exact hml.out, HS1.out, hU.setCell (p := ⟨gt, i, none⟩) (.inl (by simp)) _, HG, Nat.le_refl _⟩
        · have HE : Hid (m = fillN (cIni cs pl) t n (x + 1) ((l.set x t).set y t)) := by
            show _ = _; rw [← HF.out, fillN_stop (fun h => h1 (by rw [HV.out]; exact h.2))]
          rw [decide_eq_false h1] at b12
          simp only [Bool.not_false] at b12
          clear h1
          go_wp2
          have hR := HRR.out
          clear HV HS1 HRR b12 ft ct' ci cz hz hin
          have hR1 : Row wr gt 77 (clsU (fillN (cIni cs pl) t n (x + 1) ((l.set x t).set y t))) := by rw [← HE.out]; exact hR
          have hU1 := hU
          clear hR hU HE a3 a4 ax ay hk HF
          go_loopg [10] (n + 1) (fun k s8 wr => ∃ (i : Nat) (m : List Cl), s8 = .int .i64 i ∧ y + 1 ≤ i ∧ i ≤ n ∧ Hid (m.length = n) ∧ Row wr gt 77 (clsU m) ∧ Upd [gt] (w.alloc (.cells [.int .i64 x, .int .i64 y].toArray 179)) wr ∧ Hid (fillN (cIni cs pl) t n i m = fillN (cIni cs pl) t n (y + 1) (fillN (cIni cs pl) t n (x + 1) ((l.set x t).set y t))) ∧ Hid (n - i ≤ k))
          case atStart => exact ⟨y + 1, (fillN (cIni cs pl) t n (x + 1) ((l.set x t).set y t)), by go_num, Nat.le_refl _, by omega, by show _ = _; rw [fillN_length, List.length_set, List.length_set, HN.out], hR1, hU1, rfl, by show _ ≤ _; omega⟩
          case round =>
            clear hR1 hU1
            obtain ⟨i, m, rfl, hlo, hhi, hml, hR, hU, HF, hk⟩ := hrel
            obtain ⟨a3, a4, aI, a0, ax, ay, aU⟩ := hS.out _ hU
            by_cases hlt : i < n
            · have hin : i < n := by omega
              have ci := aI.num i (by rw [nats_length, HP.out]; exact hin)
              rw [nth_nats (by rw [HP.out]; exact hin)] at ci
              have hz := HPL.out (nat pl i) (nat_mem (by rw [HP.out]; exact hin))
              have cz := a0.cls (nat pl i) (by rw [HC.out]; exact hz)
              have ft := hR.free i
              have ct' := hR.cls i (by rw [hml.out]; exact hin)
              have hcc := cat_cIni (cs := cs) (pl := pl) (i := i) (by rw [HP.out]; exact hin)
              rw [← hcc] at cz
              have b12 : ((cat (cIni cs pl) i).e2 != 12) = !(decide (cat (cIni cs pl) i = .NSM)) := by show (!((cat (cIni cs pl) i).e2 == Cl.NSM.e2)) = _; rw [Cl.e2_beq]
              have HS1 := Lib.hid (hR.setCls i t (by rw [hml.out]; exact hin))
              have HRR := Lib.hid hR
              obtain ⟨v, hv⟩ : ∃ v, v = cat (cIni cs pl) i := ⟨_, rfl⟩
              obtain ⟨z, hzz⟩ : ∃ z, z = nat pl i := ⟨_, rfl⟩
              rw [← hv] at cz b12
              rw [← hzz] at ci cz hz
              have HV := Lib.hid hv
              clear hv hcc hzz aI a0 hR
              by_cases h1 : v = .NSM
              · have HG : Hid (fillN (cIni cs pl) t n (i + 1) (m.set i t) = fillN (cIni cs pl) t n (y + 1) (fillN (cIni cs pl) t n (x + 1) ((l.set x t).set y t))) := by
                  show _ = _; rw [← HF.out, fillN_fuel n (n + 1) i m (by rw [hml.out]; omega) (by rw [hml.out]; omega), fillN_go (by rw [hml.out]; exact hin) (by rw [← HV.out]; exact h1)]
                rw [decide_eq_true h1] at b12
                simp only [Bool.not_true] at b12
                clear h1
                go_wp2
                go_roundg (n - (i + 1))
                case measure => have := hk.out; omega
                case rel => exact ⟨i + 1, m.set i t, by go_num, by omega, by omega, by show _ = _; rw [List.length_set]; exact hml.out, HS1.out, hU.setCell (p := ⟨gt, i, none⟩) (.inl (by simp)) _, HG, Nat.le_refl _⟩
              · have HE : Hid (m = fillN (cIni cs pl) t n (y + 1) (fillN (cIni cs pl) t n (x + 1) ((l.set x t).set y t))) := by
                  show _ = _; rw [← HF.out, fillN_stop (fun h => h1 (by rw [HV.out]; exact h.2))]
                rw [decide_eq_false h1] at b12
                simp only [Bool.not_false] at b12
                clear h1
                go_wp2
                have hR := HRR.out
                clear HV HS1 HRR b12 ft ct' ci cz hz hin
                go_end0
                exact ⟨rfl, by rw [← HE.out]; exact hR, aU⟩
            · have HE : Hid (m = fillN (cIni cs pl) t n (y + 1) (fillN (cIni cs pl) t n (x + 1) ((l.set x t).set y t))) := by
                show _ = _; rw [← HF.out, fillN_stop (fun h => by have := h.1; rw [hml.out] at this; omega)]
              clear aI a0
              go_wp2
              go_end0
              exact ⟨rfl, by rw [← HE.out]; exact hR, aU⟩
      · have HE : Hid (m = fillN (cIni cs pl) t n (x + 1) ((l.set x t).set y t)) := by
          show _ = _; rw [← HF.out, fillN_stop (fun h => HINI.out (by rw [show y = i by omega]; exact h.2))]
        clear aI a0
        go_wp2
        have hR1 : Row wr gt 77 (clsU (fillN (cIni cs pl) t n (x + 1) ((l.set x t).set y t))) := by rw [← HE.out]; exact hR
        have hU1 := hU
        clear hR hU HE a3 a4 ax ay hk HF
        go_loopg [10] (n + 1) (fun k s8 wr => ∃ (i : Nat) (m : List Cl), s8 = .int .i64 i ∧ y + 1 ≤ i ∧ i ≤ n ∧ Hid (m.length = n) ∧ Row wr gt 77 (clsU m) ∧ Upd [gt] (w.alloc (.cells [.int .i64 x, .int .i64 y].toArray 179)) wr ∧ Hid (fillN (cIni cs pl) t n i m = fillN (cIni cs pl) t n (y + 1) (fillN (cIni cs pl) t n (x + 1) ((l.set x t).set y t))) ∧ Hid (n - i ≤ k))
        case atStart => exact ⟨y + 1, (fillN (cIni cs pl) t n (x + 1) ((l.set x t).set y t)), by go_num, Nat.le_refl _, by omega, by show _ = _; rw [fillN_length, List.length_set, List.length_set, HN.out], hR1, hU1, rfl, by show _ ≤ _; omega⟩
        case round =>
          clear hR1 hU1
          obtain ⟨i, m, rfl, hlo, hhi, hml, hR, hU, HF, hk⟩ := hrel
          obtain ⟨a3, a4, aI, a0, ax, ay, aU⟩ := hS.out _ hU
          by_cases hlt : i < n
          · have hin : i < n := by omega
            have ci := aI.num i (by rw [nats_length, HP.out]; exact hin)
            rw [nth_nats (by rw [HP.out]; exact hin)] at ci
            have hz := HPL.out (nat pl i) (nat_mem (by rw [HP.out]; exact hin))
            have cz := a0.cls (nat pl i) (by rw [HC.out]; exact hz)
            have ft := hR.free i
            have ct' := hR.cls i (by rw [hml.out]; exact hin)
            have hcc := cat_cIni (cs := cs) (pl := pl) (i := i) (by rw [HP.out]; exact hin)
            rw [← hcc] at cz
            have b12 : ((cat (cIni cs pl) i).e2 != 12) = !(decide (cat (cIni cs pl) i = .NSM)) := by show (!((cat (cIni cs pl) i).e2 == Cl.NSM.e2)) = _; rw [Cl.e2_beq]
            have HS1 := Lib.hid (hR.setCls i t (by rw [hml.out]; exact hin))
            have HRR := Lib.hid hR
            obtain ⟨v, hv⟩ : ∃ v, v = cat (cIni cs pl) i := ⟨_, rfl⟩
            obtain ⟨z, hzz⟩ : ∃ z, z = nat pl i := ⟨_, rfl⟩
            rw [← hv] at cz b12
            rw [← hzz] at ci cz hz
            have HV := Lib.hid hv
            clear hv hcc hzz aI a0 hR
            by_cases h1 : v = .NSM
            · have HG : Hid (fillN (cIni cs pl) t n (i + 1) (m.set i t) = fillN (cIni cs pl) t n (y + 1) (fillN (cIni cs pl) t n (x + 1) ((l.set x t).set y t))) := by
                show _ = _; rw [← HF.out, fillN_fuel n (n + 1) i m (by rw [hml.out]; omega) (by rw [hml.out]; omega), fillN_go (by rw [hml.out]; exact hin) (by rw [← HV.out]; exact h1)]
              rw [decide_eq_true h1] at b12
              simp only [Bool.not_true] at b12
              clear h1
              go_wp2
              go_roundg (n - (i + 1))
              case measure => have := hk.out; omega
              case rel => exact ⟨i + 1, m.set i t, by go_num, by omega, by omega, by show _ = _; rw [List.length_set]; exact hml.out, HS1.out, hU.setCell (p := ⟨gt, i, none⟩) (.inl (by simp)) _, HG, Nat.le_refl _⟩
            · have HE : Hid (m = fillN (cIni cs pl) t n (y + 1) (fillN (cIni cs pl) t n (x + 1) ((l.set x t).set y t))) := by
                show _ = _; rw [← HF.out, fillN_stop (fun h => h1 (by rw [HV.out]; exact h.2))]
              rw [decide_eq_false h1] at b12
              simp only [Bool.not_false] at b12
              clear h1
              go_wp2
              have hR := HRR.out
              clear HV HS1 HRR b12 ft ct' ci cz hz hin
              go_end0
              exact ⟨rfl, by rw [← HE.out]; exact hR, aU⟩
          · have HE : Hid (m = fillN (cIni cs pl) t n (y + 1) (fillN (cIni cs pl) t n (x + 1) ((l.set x t).set y t))) := by
              show _ = _; rw [← HF.out, fillN_stop (fun h => by have := h.1; rw [hml.out] at this; omega)]
            clear aI a0
            go_wp2
            go_end0
            exact ⟨rfl, by rw [← HE.out]; exact hR, aU⟩
end Go.Proofs.YtjahmnenfknjgaaGreatDoor
