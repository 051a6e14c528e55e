/- Level runs (BD7); plain Lean. -/
import Derived.Test.YtjahmnenfknjgaaGreatDoorG1
set_option linter.unusedVariables false
set_option linter.unusedSimpArgs false
namespace Go.Proofs.YtjahmnenfknjgaaGreatDoor

def lat (rs : List (List Nat)) (k : Nat) : List Nat := rs.getD k []
/-- One character's step: the runs, and the last level. -/
def rstep (lv : List Int) (s : List (List Nat) × Int) (i : Nat) : List (List Nat) × Int :=
  if nth lv i = -1 then s
  else if nth lv i = s.2 then (s.1.set (s.1.length - 1) (lat s.1 (s.1.length - 1) ++ [i]), s.2)
  else (s.1 ++ [[i]], nth lv i)
def rst (lv : List Int) : Nat → List (List Nat) × Int
  | 0 => ([], -1)
  | i + 1 => rstep lv (rst lv i) i
def runs (lv : List Int) : List (List Nat) := (rst lv lv.length).1
theorem rst_skip {lv : List Int} {i : Nat} (h : nth lv i = -1) : rst lv (i + 1) = rst lv i := by rw [rst, rstep, if_pos h]
theorem rst_same {lv : List Int} {i : Nat} (h : nth lv i ≠ -1) (h' : nth lv i = (rst lv i).2) : rst lv (i + 1) = ((rst lv i).1.set ((rst lv i).1.length - 1) (lat (rst lv i).1 ((rst lv i).1.length - 1) ++ [i]), (rst lv i).2) := by
  rw [rst, rstep, if_neg h, if_pos h']
theorem rst_new {lv : List Int} {i : Nat} (h : nth lv i ≠ -1) (h' : nth lv i ≠ (rst lv i).2) : rst lv (i + 1) = ((rst lv i).1 ++ [[i]], nth lv i) := by
  rw [rst, rstep, if_neg h, if_neg h']
theorem rst_ne (lv : List Int) : ∀ i, (rst lv i).2 ≠ -1 → 0 < (rst lv i).1.length
  | 0, h => absurd rfl h
  | i + 1, h => by
    by_cases h1 : nth lv i = -1
    · rw [rst_skip h1] at h ⊢; exact rst_ne lv i h
    by_cases h2 : nth lv i = (rst lv i).2
    · rw [rst_same h1 h2]; simp only [List.length_set]; exact rst_ne lv i (by rw [← h2]; exact h1)
    · rw [rst_new h1 h2]; simp
theorem rst_len (lv : List Int) : ∀ i, (rst lv i).1.length ≤ i
  | 0 => by simp [rst]
  | i + 1 => by
    have ih := rst_len lv i
    by_cases h1 : nth lv i = -1
    · rw [rst_skip h1]; omega
    by_cases h2 : nth lv i = (rst lv i).2
    · rw [rst_same h1 h2]; simp; omega
    · rw [rst_new h1 h2]; simp; omega
/-- Every place of a run lies ahead; runs are not empty. -/
theorem rst_mem (lv : List Int) : ∀ i r, r ∈ (rst lv i).1 → r ≠ [] ∧ r.length ≤ i ∧ ∀ q, q ∈ r → q < i ∧ nth lv q ≠ -1
  | 0, r, h => by simp [rst] at h
  | i + 1, r, h => by
    have ih := rst_mem lv i
    by_cases h1 : nth lv i = -1
    · rw [rst_skip h1] at h
      obtain ⟨a, b, c⟩ := ih r h
      exact ⟨a, by omega, fun q hq => ⟨by have := (c q hq).1; omega, (c q hq).2⟩⟩
    by_cases h2 : nth lv i = (rst lv i).2
    · have hne := rst_ne lv i (by rw [← h2]; exact h1)
      rw [rst_same h1 h2] at h
      rcases List.mem_or_eq_of_mem_set h with h | rfl
      · obtain ⟨a, b, c⟩ := ih r h
        exact ⟨a, by omega, fun q hq => ⟨by have := (c q hq).1; omega, (c q hq).2⟩⟩
      · have hm : lat (rst lv i).1 ((rst lv i).1.length - 1) ∈ (rst lv i).1 := by
          have e : lat (rst lv i).1 ((rst lv i).1.length - 1) = (rst lv i).1[(rst lv i).1.length - 1]'(by omega) := by simp [lat, show (rst lv i).1.length - 1 < (rst lv i).1.length by omega]
          rw [e]; exact List.getElem_mem _
        obtain ⟨a, b, c⟩ := ih _ hm
        refine ⟨by simp, by simp; omega, fun q hq => ?_⟩
        rcases List.mem_append.1 hq with hq | hq
        · exact ⟨by have := (c q hq).1; omega, (c q hq).2⟩
        · simp at hq; subst hq; exact ⟨by omega, h1⟩
    · rw [rst_new h1 h2] at h
      rcases List.mem_append.1 h with h | h
      · obtain ⟨a, b, c⟩ := ih r h
        exact ⟨a, by omega, fun q hq => ⟨by have := (c q hq).1; omega, (c q hq).2⟩⟩
      · simp at h; subst h
        exact ⟨by simp, by simp, fun q hq => by simp at hq; subst hq; exact ⟨by omega, h1⟩⟩
end Go.Proofs.YtjahmnenfknjgaaGreatDoor
namespace Go.Proofs.YtjahmnenfknjgaaGreatDoor

def look : List (Int × Nat) → Int → Option Nat
  | [], _ => none
  | p :: l, k => if p.1 = k then some p.2 else look l k
def lastOf (r : List Nat) : Nat := nat r (r.length - 1)
structure Jn where
  out : List (List Nat)
  mp : List (Int × Nat)
/-- The chain that the run goes onto, if any. -/
def jk (s : Jn) (r : List Nat) : Option Nat := look s.mp (nat r 0)
def jout (s : Jn) (r : List Nat) : List (List Nat) :=
  match jk s r with
  | some k => s.out.set k (lat s.out k ++ r)
  | none => s.out ++ [r]
def jpos (s : Jn) (r : List Nat) : Nat := (jk s r).getD s.out.length
def jstep (cs : List Cl) (s : Jn) (r : List Nat) : Jn :=
  ⟨jout s r, if (cat cs (lastOf r)).isInit = true then (nth (mt cs) (lastOf r), jpos s r) :: s.mp else s.mp⟩
def jst (cs : List Cl) (rs : List (List Nat)) : Nat → Jn
  | 0 => ⟨[], []⟩
  | j + 1 => jstep cs (jst cs rs j) (lat rs j)
/-- BD13: the chains' places. -/
def joined (cs : List Cl) (lv : List Int) : List (List Nat) := (jst cs (runs lv) (runs lv).length).out

/-- Every remembered chain stands. -/
def Jn.Ok (s : Jn) : Prop := ∀ key k, look s.mp key = some k → k < s.out.length
theorem jpos_lt {cs : List Cl} {s : Jn} {r : List Nat} (h : s.Ok) : jpos s r < (jout s r).length ∧ s.out.length ≤ (jout s r).length ∧ (jout s r).length ≤ s.out.length + 1 := by
  unfold jpos jout
  cases hk : jk s r with
  | none => simp
  | some k => have := h _ _ hk; simpa using this
theorem jstep_ok {cs : List Cl} {s : Jn} {r : List Nat} (h : s.Ok) : (jstep cs s r).Ok := by
  obtain ⟨h1, h2, h3⟩ := jpos_lt (cs := cs) (r := r) h
  intro key k hk
  show k < (jout s r).length
  simp only [jstep] at hk
  split at hk
  · simp only [look] at hk
    split at hk
    · cases hk; exact h1
    · have := h key k hk; omega
  · have := h key k hk; omega
theorem jst_ok (cs : List Cl) (rs : List (List Nat)) : ∀ j, (jst cs rs j).Ok
  | 0 => fun key k h => by simp [jst, look] at h
  | j + 1 => jstep_ok (jst_ok cs rs j)
theorem jst_len (cs : List Cl) (rs : List (List Nat)) : ∀ j, (jst cs rs j).out.length ≤ j
  | 0 => by simp [jst]
  | j + 1 => by
    have := jst_len cs rs j
    have := (jpos_lt (cs := cs) (r := lat rs j) (jst_ok cs rs j)).2.2
    show (jout _ _).length ≤ _; omega
/-- What lies in the chains: places of runs. -/
theorem jout_mem {s : Jn} {r x : List Nat} (hs : s.Ok) (hx : x ∈ jout s r) : x ∈ s.out ∨ x = r ∨ ∃ y, y ∈ s.out ∧ x = y ++ r := by
  unfold jout at hx
  cases hk : jk s r with
  | none => rw [hk] at hx; rcases List.mem_append.1 hx with h | h; exact .inl h; simp at h; exact .inr (.inl h)
  | some k =>
    rw [hk] at hx
    rcases List.mem_or_eq_of_mem_set hx with h | h
    · exact .inl h
    · refine .inr (.inr ⟨lat s.out k, ?_, h⟩)
      have := hs _ _ hk
      have e : lat s.out k = s.out[k] := by simp [lat, this]
      rw [e]; exact List.getElem_mem _
theorem jst_mem {P : Nat → Prop} (cs : List Cl) {rs : List (List Nat)} (hr : ∀ r, r ∈ rs → r ≠ [] ∧ ∀ q, q ∈ r → P q) : ∀ j, j ≤ rs.length → ∀ x, x ∈ (jst cs rs j).out → x ≠ [] ∧ ∀ q, q ∈ x → P q
  | 0, _, x, h => by simp [jst] at h
  | j + 1, hj, x, h => by
    have ih := jst_mem cs hr j (by omega)
    have hm : lat rs j ∈ rs := by
      have e : lat rs j = rs[j] := by simp [lat, show j < rs.length by omega]
      rw [e]; exact List.getElem_mem _
    rcases jout_mem (jst_ok cs rs j) h with h | h | ⟨y, hy, h⟩
    · exact ih x h
    · subst h; exact hr _ hm
    · subst h
      refine ⟨by simp [(ih y hy).1], fun q hq => ?_⟩
      rcases List.mem_append.1 hq with hq | hq
      · exact (ih y hy).2 q hq
      · exact (hr _ hm).2 q hq
theorem runs_mem {lv : List Int} {r : List Nat} (h : r ∈ runs lv) : r ≠ [] ∧ ∀ q, q ∈ r → q < lv.length ∧ nth lv q ≠ -1 :=
  ⟨(rst_mem lv lv.length r h).1, (rst_mem lv lv.length r h).2.2⟩
theorem joined_mem {cs : List Cl} {lv : List Int} {r : List Nat} (h : r ∈ joined cs lv) : r ≠ [] ∧ ∀ q, q ∈ r → q < lv.length ∧ nth lv q ≠ -1 :=
  jst_mem cs (fun r hr => runs_mem hr) _ (Nat.le_refl _) r h
/-- The places of all runs, counted. -/
def tot (rs : List (List Nat)) : Nat := (rs.map List.length).sum
theorem tot_snoc (rs : List (List Nat)) (r : List Nat) : tot (rs ++ [r]) = tot rs + r.length := by simp [tot]
theorem tot_set : ∀ (rs : List (List Nat)) (k : Nat) (r : List Nat), k < rs.length → tot (rs.set k (lat rs k ++ r)) = tot rs + r.length
  | [], k, r, h => by simp at h
  | x :: rs, 0, r, _ => by simp [tot, lat]; omega
  | x :: rs, k + 1, r, h => by
    have := tot_set rs k r (by simpa using h)
    simp only [tot, lat, List.set_cons_succ, List.map_cons, List.sum_cons, List.getD_cons_succ] at this ⊢
    omega
theorem tot_ge {rs : List (List Nat)} {r : List Nat} (h : r ∈ rs) : r.length ≤ tot rs := by
  induction rs with
  | nil => simp at h
  | cons x rs ih =>
    simp only [tot, List.map_cons, List.sum_cons]
    rcases List.mem_cons.1 h with h | h
    · subst h; omega
    · have := ih h; simp only [tot] at this; omega
theorem rst_tot (lv : List Int) : ∀ i, tot (rst lv i).1 ≤ i
  | 0 => by simp [rst, tot]
  | i + 1 => by
    have ih := rst_tot lv i
    by_cases h1 : nth lv i = -1
    · rw [rst_skip h1]; omega
    by_cases h2 : nth lv i = (rst lv i).2
    · have hne := rst_ne lv i (by rw [← h2]; exact h1)
      rw [rst_same h1 h2]; simp only; rw [tot_set _ _ _ (by omega)]; simp; omega
    · rw [rst_new h1 h2]; simp only; rw [tot_snoc]; simp; omega
theorem jst_tot (cs : List Cl) (rs : List (List Nat)) : ∀ j, j ≤ rs.length → tot (jst cs rs j).out = tot (rs.take j)
  | 0, _ => by simp [jst, tot]
  | j + 1, hj => by
    have ih := jst_tot cs rs j (by omega)
    have e : rs.take (j + 1) = rs.take j ++ [lat rs j] := by rw [List.take_succ_eq_append_getElem (by omega)]; simp [lat, show j < rs.length by omega]
    rw [e, tot_snoc, ← ih]
    show tot (jout _ _) = _
    unfold jout
    cases hk : jk (jst cs rs j) (lat rs j) with
    | none => exact tot_snoc _ _
    | some k => exact tot_set _ _ _ (jst_ok cs rs j _ _ hk)
theorem tot_take (rs : List (List Nat)) (j : Nat) : tot (rs.take j) ≤ tot rs := by
  have : tot rs = tot (rs.take j) + tot (rs.drop j) := by
    conv => lhs; rw [← List.take_append_drop j rs]
    simp only [tot, List.map_append, List.sum_append]
  omega
theorem joined_tot (cs : List Cl) (lv : List Int) : tot (joined cs lv) ≤ lv.length := by
  unfold joined; rw [jst_tot _ _ _ (Nat.le_refl _)]
  have := tot_take (runs lv) (runs lv).length
  have := rst_tot lv lv.length
  unfold runs at *; omega
theorem joined_len {cs : List Cl} {lv : List Int} {r : List Nat} (h : r ∈ joined cs lv) : r.length ≤ lv.length := Nat.le_trans (tot_ge h) (joined_tot cs lv)

/-- A chain: places, level, start, end. -/
structure Chn where
  pl : List Nat
  lev : Int
  so : Cl
  eo : Cl
def elev (cs : List Cl) (lv : List Int) (base : Int) (pl : List Nat) : Int :=
  if (cat cs (lastOf pl)).isInit = false ∨ nth (mt cs) (lastOf pl) < cs.length then aftLv lv base (lastOf pl + 1) else base
def chnOf (cs : List Cl) (lv : List Int) (base : Int) (pl : List Nat) : Chn :=
  ⟨pl, nth lv (nat pl 0), dirOf (max (nth lv (nat pl 0)) (befLv lv base (nat pl 0))), dirOf (max (nth lv (nat pl 0)) (elev cs lv base pl))⟩
def chains (cs : List Cl) (lv : List Int) (base : Int) : List Chn := (joined cs lv).map (chnOf cs lv base)
end Go.Proofs.YtjahmnenfknjgaaGreatDoor
namespace Go.Proofs.YtjahmnenfknjgaaGreatDoor

def AllC (p : Cl → Bool) (l : List Cl) : Prop := ∀ j, j < l.length → p (cat l j) = true
def Cl.p1 (c : Cl) : Bool := !c.isRem && !(c == .NSM)
def Cl.p2 (c : Cl) : Bool := c.p1 && !(c == .AL)
def Cl.p0 (c : Cl) : Bool := !c.isRem
def Cl.p4 (c : Cl) : Bool := c == .L || c == .R || c == .EN || c == .AN
theorem AllC.lst {p : Cl → Bool} {n : Nat} {f : Nat → Cl} (h : ∀ i, i < n → p (f i) = true) : AllC p (lst n f) := fun j hj => by
  rw [lst_length] at hj; rw [cat_lst hj]; exact h j hj
theorem mkS_p1 {l : List Cl} {st : Cl} (hl : AllC Cl.p0 l) (hs : st = .L ∨ st = .R) : ∀ i, i < l.length → (mkS l st i).p1 = true
  | 0, h => by
    have := hl 0 h
    unfold mkS; split
    · rcases hs with rfl | rfl <;> rfl
    · rename_i e; revert this e; cases cat l 0 <;> simp [Cl.p0, Cl.p1, Cl.isRem]
  | i + 1, h => by
    have h0 := hl (i + 1) h
    have ih := mkS_p1 hl hs i (by omega)
    unfold mkS; split
    · split
      · rfl
      · exact ih
    · rename_i e; revert h0 e; cases cat l (i + 1) <;> simp [Cl.p0, Cl.p1, Cl.isRem]
theorem w2_p1 {l : List Cl} {st : Cl} (hl : AllC Cl.p1 l) (i : Nat) (h : i < l.length) : (w2 l st i).p1 = true := by
  unfold w2; split
  · rfl
  · exact hl i h
theorem w3_p2 {l : List Cl} (hl : AllC Cl.p1 l) (i : Nat) (h : i < l.length) : (w3 l i).p2 = true := by
  have := hl i h
  unfold w3; split
  · rfl
  · rename_i e; simp [Cl.p2, this, e]
theorem w4_p2 {l : List Cl} (hl : AllC Cl.p2 l) : ∀ i, i < l.length → (w4 l i).p2 = true
  | 0, h => hl 0 h
  | i + 1, h => by
    unfold w4; split
    · exact w4_p2 hl i (by omega)
    · exact hl (i + 1) h
theorem w5_p2 {l : List Cl} (hl : AllC Cl.p2 l) (i : Nat) (h : i < l.length) : (w5 l i).p2 = true := by
  unfold w5; split
  · rfl
  · exact hl i h
theorem w6_isN {l : List Cl} (hl : AllC Cl.p2 l) (i : Nat) (h : i < l.length) : isN (w6 l i) = true := by
  have := hl i h
  unfold w6; split
  · rfl
  · rename_i e; revert this e; cases cat l i <;> simp [Cl.p2, Cl.p1, Cl.isRem, isN, Cl.isNI]
theorem w7_isN {l : List Cl} {st : Cl} (hl : AllC isN l) (i : Nat) (h : i < l.length) : isN (w7 l st i) = true := by
  unfold w7; split
  · rfl
  · exact hl i h
theorem weakS_isN {l : List Cl} {st : Cl} (hl : AllC Cl.p0 l) (hs : st = .L ∨ st = .R) : AllC isN (weakS l st) := by
  have h1 : AllC Cl.p1 (marksS l st) := .lst (mkS_p1 hl hs)
  have h2 : AllC Cl.p1 (w2L (marksS l st) st) := .lst (w2_p1 h1)
  have h3 : AllC Cl.p2 (w3L (w2L (marksS l st) st)) := .lst (w3_p2 h2)
  have h4 : AllC Cl.p2 (w4L (w3L (w2L (marksS l st) st))) := .lst (w4_p2 h3)
  have h5 : AllC Cl.p2 (w5L (w4L (w3L (w2L (marksS l st) st)))) := .lst (w5_p2 h4)
  have h6 : AllC isN (w6L (w5L (w4L (w3L (w2L (marksS l st) st))))) := .lst (w6_isN h5)
  exact .lst (w7_isN h6)
theorem AllC.set {p : Cl → Bool} {l : List Cl} {k : Nat} {x : Cl} (hl : AllC p l) (hx : p x = true) : AllC p (l.set k x) := fun j hj => by
  rw [List.length_set] at hj
  by_cases e : j = k
  · subst e; simp [cat, hj, hx]
  · have := hl j hj; simpa [cat, List.getElem?_set_ne (fun h => e h.symm)] using this
theorem AllC.fillN {p : Cl → Bool} {ini : List Cl} {t : Cl} (ht : p t = true) : ∀ (f k : Nat) (out : List Cl), AllC p out → AllC p (fillN ini t f k out)
  | 0, _, _, h => h
  | f + 1, k, out, h => by
    unfold Go.Proofs.YtjahmnenfknjgaaGreatDoor.fillN; split
    · exact AllC.fillN ht f _ _ (h.set ht)
    · exact h
theorem ctx_strong {l : List Cl} {st : Cl} (h : st = .L ∨ st = .R) : ∀ k, ctx l st k = .L ∨ ctx l st k = .R
  | 0 => h
  | k + 1 => by
    unfold ctx
    cases hc : cat l k <;> simp [stg] <;> exact ctx_strong h k
open Classical in
theorem nstep_isN {ini : List Cl} {way st : Cl} {out : List Cl} {p : Nat × Nat} (h : AllC isN out) (hw : way = .L ∨ way = .R) (hs : st = .L ∨ st = .R) : AllC isN (nstep ini way st out p) := by
  unfold nstep; split
  · have ht : ∀ c : Cl, c = .L ∨ c = .R → isN c = true := by intro c hc; rcases hc with rfl | rfl <;> rfl
    have hx : isN (if InsSame out p.1 p.2 way then way else ctx out st p.1) = true := by
      apply ht; split
      · exact hw
      · exact ctx_strong hs _
    exact .fillN hx _ _ _ (AllC.set (.fillN hx _ _ _ (h.set hx)) hx)
  · exact h
theorem dirOf_strong (l : Int) : dirOf l = .L ∨ dirOf l = .R := by unfold dirOf; split <;> simp
theorem brS_isN {l ini : List Cl} {br : List Int} {level : Int} {st : Cl} (h : AllC isN l) (hs : st = .L ∨ st = .R) : AllC isN (brS l ini br level st) := by
  unfold brS
  generalize prs l br = ps
  induction ps generalizing l with
  | nil => exact h
  | cons p ps ih => exact ih (nstep_isN h (dirOf_strong _) hs)
theorem stR_strong (c : Cl) : stR c = .L ∨ stR c = .R := by unfold stR; split <;> simp
theorem nb_strong {l : List Cl} {sos : Cl} (h : sos = .L ∨ sos = .R) : ∀ k, nb l sos k = .L ∨ nb l sos k = .R
  | 0 => h
  | k + 1 => by
    unfold nb; split
    · exact nb_strong h k
    · exact stR_strong _
theorem neuS_p4 {l : List Cl} {level : Int} {sos eos : Cl} (h : AllC isN l) (hs : sos = .L ∨ sos = .R) : AllC Cl.p4 (neuS l level sos eos) := .lst fun i hi => by
  have h0 := h i hi
  have ht : ∀ c : Cl, c = .L ∨ c = .R → c.p4 = true := by intro c hc; rcases hc with rfl | rfl <;> rfl
  unfold n12; split
  · split
    · exact ht _ (nb_strong hs _)
    · exact ht _ (dirOf_strong _)
  · rename_i e; simp [isN, e] at h0; simp [Cl.p4]; exact h0
theorem p4_cases {c : Cl} (h : c.p4 = true) : c = .L ∨ c = .R ∨ c = .EN ∨ c = .AN := by cases c <;> simp [Cl.p4] at h ⊢

/-! ### The paragraph -/
def cIni (T : List Cl) (pl : List Nat) : List Cl := pl.map (cat T)
noncomputable def cRes (T : List Cl) (br : List Int) (c : Chn) : List Cl := neuS (brS (weakS (cIni T c.pl) c.so) (cIni T c.pl) (pick br c.pl) c.lev c.so) c.lev c.so c.eo
def scC (T : List Cl) (pl : List Nat) (r : List Cl) : Nat → List Cl
  | 0 => T
  | k + 1 => (scC T pl r k).set (nat pl k) (cat r k)
def scI (V : List Int) (pl : List Nat) (r : List Int) : Nat → List Int
  | 0 => V
  | k + 1 => (scI V pl r k).set (nat pl k) (nth r k)
theorem scC_length (T : List Cl) (pl : List Nat) (r : List Cl) : ∀ k, (scC T pl r k).length = T.length
  | 0 => rfl
  | k + 1 => by unfold scC; rw [List.length_set]; exact scC_length T pl r k
theorem scI_length (T : List Int) (pl : List Nat) (r : List Int) : ∀ k, (scI T pl r k).length = T.length
  | 0 => rfl
  | k + 1 => by unfold scI; rw [List.length_set]; exact scI_length T pl r k
noncomputable def rstp (br : List Int) (s : List Cl × List Int) (c : Chn) : List Cl × List Int :=
  (scC s.1 c.pl (cRes s.1 br c) c.pl.length, scI s.2 c.pl (impS (cRes s.1 br c) c.lev) c.pl.length)
noncomputable def rsv (br : List Int) (s : List Cl × List Int) (l : List Chn) : List Cl × List Int := l.foldl (rstp br) s
theorem rsv_length (br : List Int) : ∀ (l : List Chn) (s : List Cl × List Int), (rsv br s l).1.length = s.1.length ∧ (rsv br s l).2.length = s.2.length
  | [], s => ⟨rfl, rfl⟩
  | c :: l, s => by
    have := rsv_length br l (rstp br s c)
    simp only [rstp, scC_length, scI_length] at this
    exact this
noncomputable def resolved (cs : List Cl) (br : List Int) (base : Int) : List Cl × List Int := rsv br (tys cs base, lvs cs base) (chains cs (lvs cs base) base)
/-- The types as the set hands them back: -1 where the level is. -/
def tyI (lv : List Int) (T : List Cl) : List Int := (List.range T.length).map fun q => if nth lv q = -1 then -1 else (cat T q).e1
theorem tyI_length (lv : List Int) (T : List Cl) : (tyI lv T).length = T.length := by simp [tyI]
theorem nth_tyI {lv : List Int} {T : List Cl} {q : Nat} (h : q < T.length) : nth (tyI lv T) q = if nth lv q = -1 then -1 else (cat T q).e1 := by simp [nth, tyI, h]
theorem tyI_set {lv : List Int} {T : List Cl} {q : Nat} {x : Cl} (hq : nth lv q ≠ -1) : (tyI lv T).set q x.e1 = tyI lv (T.set q x) := by
  apply List.ext_getElem
  · simp [tyI]
  · intro i h1 h2
    simp only [List.length_set, tyI_length] at h1 h2
    rw [nth_eq, nth_eq, nth_tyI (by simpa using h2)]
    by_cases e : i = q
    · have h2T : i < T.length := by simpa [tyI_length] using h2
      subst e
      rw [if_neg hq]
      have h3 : i < (tyI lv T).length := by rw [tyI_length]; exact h2T
      rw [show nth ((tyI lv T).set i x.e1) i = x.e1 from by simp [nth, h3], show cat (T.set i x) i = x from by simp [cat, h2T]]
    · rw [show nth ((tyI lv T).set q x.e1) i = nth (tyI lv T) i from by simp [nth, List.getElem?_set_ne (fun h => e h.symm)], nth_tyI h2]
      simp [cat, List.getElem?_set_ne (fun h => e h.symm)]
theorem pick_tyI {lv : List Int} {T : List Cl} {pl : List Nat} (h : ∀ q, q ∈ pl → q < T.length ∧ nth lv q ≠ -1) : pick (tyI lv T) pl = (cIni T pl).map Cl.e1 := by
  unfold pick cIni
  rw [List.map_map]
  exact List.map_congr_left fun q hq => by rw [nth_tyI (h q hq).1, if_neg (h q hq).2]; rfl
end Go.Proofs.YtjahmnenfknjgaaGreatDoor
namespace Go.Proofs.YtjahmnenfknjgaaGreatDoor

def kept (lv : List Int) (n : Nat) : List Nat := (List.range n).filter fun q => nth lv q != -1
theorem kept_succ_no {lv : List Int} {n : Nat} (h : nth lv n = -1) : kept lv (n + 1) = kept lv n := by simp [kept, List.range_succ, List.filter_append, h]
theorem kept_succ {lv : List Int} {n : Nat} (h : nth lv n ≠ -1) : kept lv (n + 1) = kept lv n ++ [n] := by simp [kept, List.range_succ, List.filter_append, h]
theorem flat_last : ∀ (rs : List (List Nat)) (i : Nat), 0 < rs.length → (rs.set (rs.length - 1) (lat rs (rs.length - 1) ++ [i])).flatten = rs.flatten ++ [i]
  | [], _, h => by simp at h
  | [x], i, _ => by simp [lat]
  | x :: y :: rs, i, _ => by
    have := flat_last (y :: rs) i (by simp)
    simp only [List.length_cons, Nat.add_sub_cancel] at this ⊢
    rw [show rs.length + 1 = (rs.length) + 1 from rfl, List.set_cons_succ, List.flatten_cons, List.flatten_cons]
    rw [show lat (x :: y :: rs) (rs.length + 1) = lat (y :: rs) rs.length from by simp [lat], this, List.append_assoc]
theorem rst_flat (lv : List Int) : ∀ i, (rst lv i).1.flatten = kept lv i
  | 0 => by simp [rst, kept]
  | i + 1 => by
    have ih := rst_flat lv i
    by_cases h1 : nth lv i = -1
    · rw [rst_skip h1, kept_succ_no h1]; exact ih
    by_cases h2 : nth lv i = (rst lv i).2
    · rw [rst_same h1 h2, kept_succ h1]; simp only
      rw [flat_last _ _ (rst_ne lv i (by rw [← h2]; exact h1)), ih]
    · rw [rst_new h1 h2, kept_succ h1]; simp [ih]
theorem flat_set : ∀ (rs : List (List Nat)) (k : Nat) (r : List Nat), k < rs.length → ((rs.set k (lat rs k ++ r)).flatten).Perm (rs.flatten ++ r)
  | [], _, _, h => by simp at h
  | x :: rs, 0, r, _ => by
    simp only [List.set_cons_zero, List.flatten_cons, lat, List.getD_cons_zero, List.append_assoc]
    exact List.Perm.append_left _ List.perm_append_comm
  | x :: rs, k + 1, r, h => by
    have := flat_set rs k r (by simpa using h)
    simp only [List.set_cons_succ, List.flatten_cons, lat, List.getD_cons_succ, List.append_assoc] at this ⊢
    exact List.Perm.append_left _ this
theorem jst_perm (cs : List Cl) (rs : List (List Nat)) : ∀ j, j ≤ rs.length → ((jst cs rs j).out.flatten).Perm (rs.take j).flatten
  | 0, _ => by simp [jst]
  | j + 1, hj => by
    have ih := jst_perm cs rs j (by omega)
    have e : rs.take (j + 1) = rs.take j ++ [lat rs j] := by rw [List.take_succ_eq_append_getElem (by omega)]; simp [lat, show j < rs.length by omega]
    rw [e, List.flatten_append]
    have e2 : [lat rs j].flatten = lat rs j := by simp
    rw [e2]
    have : ((jout (jst cs rs j) (lat rs j)).flatten).Perm ((jst cs rs j).out.flatten ++ lat rs j) := by
      unfold jout
      cases hk : jk (jst cs rs j) (lat rs j) with
      | none => simp
      | some k => exact flat_set _ _ _ (jst_ok cs rs j _ _ hk)
    exact this.trans (List.Perm.append_right _ ih)
theorem joined_perm (cs : List Cl) (lv : List Int) : ((joined cs lv).flatten).Perm (kept lv lv.length) := by
  have := jst_perm cs (runs lv) (runs lv).length (Nat.le_refl _)
  rw [List.take_length] at this
  have h2 := rst_flat lv lv.length
  unfold joined
  exact this.trans (by unfold runs; rw [h2])
theorem kept_nodup (lv : List Int) (n : Nat) : (kept lv n).Nodup := List.Nodup.sublist (List.filter_sublist) List.nodup_range
theorem joined_nodup (cs : List Cl) (lv : List Int) : (joined cs lv).flatten.Nodup := (joined_perm cs lv).nodup_iff.2 (kept_nodup _ _)
theorem joined_cnt {cs : List Cl} {lv : List Int} {pl : List Nat} (p : Nat → Bool) (h : pl ∈ joined cs lv) : pl.countP p ≤ (List.range lv.length).countP p := by
  have h1 := (joined_perm cs lv).countP_eq p
  have h2 : (kept lv lv.length).countP p ≤ (List.range lv.length).countP p := List.Sublist.countP_le List.filter_sublist
  obtain ⟨l1, l2, hl⟩ := List.append_of_mem h
  rw [hl] at h1
  simp only [List.flatten_append, List.flatten_cons, List.countP_append] at h1
  omega
/-- How many opening brackets stand ahead of place i. -/
def opc (br : List Int) (i : Nat) : Nat := (List.range i).countP fun q => decide (0 < nth br q)
theorem opc_succ (br : List Int) (i : Nat) : opc br (i + 1) = opc br i + if 0 < nth br i then 1 else 0 := by
  unfold opc; rw [List.range_succ, List.countP_append]; simp [List.countP_cons]
theorem opc_le (br : List Int) {i j : Nat} (h : i ≤ j) : opc br i ≤ opc br j := by
  induction j with
  | zero => rw [show i = 0 by omega]; exact Nat.le_refl _
  | succ j ih =>
    by_cases e : i = j + 1
    · rw [e]; exact Nat.le_refl _
    · have := ih (by omega); rw [opc_succ]; omega
theorem popTo_len {br : List Int} {v : Int} : ∀ {s : List Nat} {a : Nat} {r : List Nat}, popTo br v s = some (a, r) → r.length ≤ s.length
  | [], _, _, h => by simp [popTo] at h
  | x :: s, a, r, h => by
    unfold popTo at h
    split at h
    · cases h; simp
    · have := popTo_len h; simp; omega
theorem pst_stk (l : List Cl) (br : List Int) : ∀ i, (pst l br i).stk.length ≤ opc br i
  | 0 => by simp [pst]
  | i + 1 => by
    have ih := pst_stk l br i
    rw [opc_succ]
    show (pstep l br (pst l br i) i).stk.length ≤ _
    unfold pstep
    split
    · split
      · simp; omega
      · split
        · split
          · rename_i h; have := popTo_len h; simp only; omega
          · omega
        · omega
    · omega
theorem opc_pick {br : List Int} {pl : List Nat} : ∀ i, i ≤ pl.length → opc (pick br pl) i = (pl.take i).countP fun q => decide (0 < nth br q)
  | 0, _ => by simp [opc]
  | i + 1, h => by
    rw [opc_succ, opc_pick i (by omega), List.take_succ_eq_append_getElem (by omega), List.countP_append]
    have : nth (pick br pl) i = nth br pl[i] := by simp [nth, pick, show i < pl.length by omega]
    rw [this]; simp [List.countP_cons]
/-- With at most 63 opening brackets in all, no chain's stack is full. -/
theorem hop_of {cs : List Cl} {lv : List Int} {pl : List Nat} {br : List Int} (h : pl ∈ joined cs lv) (ho : opc br lv.length ≤ 63) (l : List Cl) : ∀ i, i < pl.length → 0 < nth (pick br pl) i → (pst l (pick br pl) i).stk.length < 63 := by
  intro i hi hp
  have h1 := pst_stk l (pick br pl) i
  have h2 := opc_succ (pick br pl) i
  rw [if_pos hp] at h2
  have h3 := opc_le (pick br pl) (show i + 1 ≤ pl.length by omega)
  rw [opc_pick pl.length (Nat.le_refl _), List.take_length] at h3
  have h4 := joined_cnt (fun q => decide (0 < nth br q)) h
  unfold opc at ho; omega
end Go.Proofs.YtjahmnenfknjgaaGreatDoor
namespace Go.Proofs.YtjahmnenfknjgaaGreatDoor

/-- The line's end ahead of line j. -/
def bkl (bs : List Int) (j : Nat) : Int := if j = 0 then 0 else nth bs (j - 1)
theorem bkl_succ (bs : List Int) (j : Nat) : bkl bs (j + 1) = nth bs j := by simp [bkl]
def BkP (bs : List Int) (n : Nat) : Prop := 0 < bs.length ∧ (∀ j, j < bs.length → bkl bs j < nth bs j ∧ nth bs j ≤ n) ∧ bkl bs bs.length = n
/-- Those of some places that are not removed. -/
def wout (ps : List Nat) (lv : List Int) : List Nat := ps.filter fun q => nth lv q != -1
theorem wout_yes {ps : List Nat} {lv : List Int} {j : Nat} (h : j < ps.length) (h' : nth lv (nat ps j) ≠ -1) : wout (ps.take (j + 1)) lv = wout (ps.take j) lv ++ [nat ps j] := by
  unfold wout; rw [List.take_succ_eq_append_getElem h, List.filter_append, nat_eq h]; simp [h']
theorem wout_no {ps : List Nat} {lv : List Int} {j : Nat} (h : j < ps.length) (h' : nth lv (nat ps j) = -1) : wout (ps.take (j + 1)) lv = wout (ps.take j) lv := by
  unfold wout; rw [List.take_succ_eq_append_getElem h, List.filter_append, nat_eq h]; simp [h']
theorem wout_len (ps : List Nat) (lv : List Int) : (wout ps lv).length ≤ ps.length := List.length_filter_le _ _
end Go.Proofs.YtjahmnenfknjgaaGreatDoor
namespace Go.Proofs.YtjahmnenfknjgaaGreatDoor

def isSp (c : Cl) : Bool := c == .WS || c.isInit || c == .PDI
/-- Behind d characters from the line's end: does the trailing whitespace go on? -/
def endS (cs : List Cl) (to : Nat) : Nat → Bool
  | 0 => true
  | d + 1 =>
    if cat cs (to - 1 - d) = .B ∨ cat cs (to - 1 - d) = .S then true
    else if (isSp (cat cs (to - 1 - d)) && endS cs to d) = true then true
    else if (cat cs (to - 1 - d)).isRem = false then false else endS cs to d
def olv (cs : List Cl) (lv : List Int) (base : Int) (to d : Nat) : Int :=
  if cat cs (to - 1 - d) = .B ∨ cat cs (to - 1 - d) = .S then base
  else if (isSp (cat cs (to - 1 - d)) && endS cs to d) = true then base else nth lv (to - 1 - d)
/-- The line from place fr to place to, its last d characters done. -/
def olP (cs : List Cl) (lv : List Int) (base : Int) (fr to d : Nat) : List Int :=
  (List.range (to - fr)).map fun q => if to - 1 - (fr + q) < d then olv cs lv base to (to - 1 - (fr + q)) else nth lv (fr + q)
def ofLine (cs : List Cl) (lv : List Int) (base : Int) (fr to : Nat) : List Int := olP cs lv base fr to (to - fr)
theorem olP_length (cs : List Cl) (lv : List Int) (base : Int) (fr to d : Nat) : (olP cs lv base fr to d).length = to - fr := by simp [olP]
theorem ofLine_length (cs : List Cl) (lv : List Int) (base : Int) (fr to : Nat) : (ofLine cs lv base fr to).length = to - fr := olP_length _ _ _ _ _ _
theorem nth_olP {cs : List Cl} {lv : List Int} {base : Int} {fr to d q : Nat} (h : q < to - fr) : nth (olP cs lv base fr to d) q = if to - 1 - (fr + q) < d then olv cs lv base to (to - 1 - (fr + q)) else nth lv (fr + q) := by simp [nth, olP, h]
theorem olP_zero {cs : List Cl} {lv : List Int} {base : Int} {fr to : Nat} (h : to ≤ lv.length) : olP cs lv base fr to 0 = (lv.drop fr).take (to - fr) := by
  apply List.ext_getElem
  · rw [olP_length]; simp; omega
  · intro i h1 h2
    rw [olP_length] at h1
    rw [nth_eq, nth_olP h1, if_neg (by omega)]
    simp [nth, show fr + i < lv.length by omega]
theorem olP_set {cs : List Cl} {lv : List Int} {base : Int} {fr to d : Nat} (h : d < to - fr) : (olP cs lv base fr to d).set (to - 1 - d - fr) (olv cs lv base to d) = olP cs lv base fr to (d + 1) := by
  apply List.ext_getElem
  · simp [olP]
  · intro i h1 h2
    rw [olP_length] at h2
    rw [nth_eq, nth_eq, nth_olP h2]
    by_cases e : i = to - 1 - d - fr
    · have h3 : i < (olP cs lv base fr to d).length := by rw [olP_length]; exact h2
      have e2 : to - 1 - (fr + i) = d := by omega
      rw [if_pos (by omega), e2, ← e]
      simp [nth, h3]
    · rw [show nth ((olP cs lv base fr to d).set (to - 1 - d - fr) (olv cs lv base to d)) i = nth (olP cs lv base fr to d) i from by simp [nth, List.getElem?_set_ne (fun h => e h.symm)], nth_olP h2]
      by_cases e2 : to - 1 - (fr + i) < d
      · rw [if_pos e2, if_pos (by omega)]
      · rw [if_neg e2, if_neg (by omega)]
theorem olP_same {cs : List Cl} {lv : List Int} {base : Int} {fr to d : Nat} (h : d < to - fr) (h' : olv cs lv base to d = nth lv (to - 1 - d)) : olP cs lv base fr to d = olP cs lv base fr to (d + 1) := by
  rw [← olP_set h, h']
  apply List.ext_getElem
  · simp
  · intro i h1 h2
    rw [List.getElem_set]
    split
    · rename_i e; subst e
      rw [olP_length] at h1
      rw [nth_eq, nth_olP h1, if_neg (by omega)]
      congr 1; omega
    · rfl
def OlK (cs : List Cl) (te q : Nat) : Prop := cat cs q = .B ∨ cat cs q = .S ∨ (isSp (cat cs q) && endS cs te (te - (q + 1))) = true
theorem ol_base {cs : List Cl} {lv : List Int} {base : Int} {fr te q : Nat} (h : fr ≤ q) (h' : q < te) (hk : OlK cs te q) : (olP cs lv base fr te (te - (q + 1))).set (q - fr) base = olP cs lv base fr te (te - q) := by
  have e : te - q = te - (q + 1) + 1 := by omega
  have e2 : te - 1 - (te - (q + 1)) = q := by omega
  have := olP_set (cs := cs) (lv := lv) (base := base) (fr := fr) (to := te) (d := te - (q + 1)) (by omega)
  rw [e2] at this
  rw [e, ← this]
  congr 1
  unfold olv; rw [e2]
  rcases hk with hk | hk | hk
  · rw [if_pos (.inl hk)]
  · rw [if_pos (.inr hk)]
  · split
    · rfl
    · first | rfl | rw [if_pos hk]
theorem ol_keep {cs : List Cl} {lv : List Int} {base : Int} {fr te q : Nat} (h : fr ≤ q) (h' : q < te) (hk : ¬ OlK cs te q) : olP cs lv base fr te (te - (q + 1)) = olP cs lv base fr te (te - q) := by
  have e : te - q = te - (q + 1) + 1 := by omega
  have e2 : te - 1 - (te - (q + 1)) = q := by omega
  rw [e]
  refine olP_same (by omega) ?_
  unfold olv; rw [e2, if_neg (fun x => hk (by rcases x with x | x; exact .inl x; exact .inr (.inl x))), if_neg (fun x => hk (.inr (.inr x)))]
theorem en_true {cs : List Cl} {te q : Nat} (h' : q < te) (hk : OlK cs te q) : endS cs te (te - q) = true := by
  have e : te - q = te - (q + 1) + 1 := by omega
  have e2 : te - 1 - (te - (q + 1)) = q := by omega
  rw [e]; unfold endS; rw [e2]
  rcases hk with hk | hk | hk
  · rw [if_pos (.inl hk)]
  · rw [if_pos (.inr hk)]
  · split
    · rfl
    · first | rfl | rw [if_pos hk]
theorem en_else {cs : List Cl} {te q : Nat} (h' : q < te) (hk : ¬ OlK cs te q) : endS cs te (te - q) = if (cat cs q).isRem = false then false else endS cs te (te - (q + 1)) := by
  have e : te - q = te - (q + 1) + 1 := by omega
  have e2 : te - 1 - (te - (q + 1)) = q := by omega
  rw [e]; conv => lhs; unfold endS
  rw [e2, if_neg (fun x => hk (by rcases x with x | x; exact .inl x; exact .inr (.inl x))), if_neg (fun x => hk (.inr (.inr x)))]
/-- All lines. -/
def lineLv (cs : List Cl) (lv : List Int) (base : Int) (bs : List Int) : Nat → List Int
  | 0 => []
  | j + 1 => lineLv cs lv base bs j ++ ofLine cs lv base (bkl bs j).toNat (nth bs j).toNat
def lineLevels (cs : List Cl) (lv : List Int) (base : Int) (bs : List Int) : List Int := lineLv cs lv base bs bs.length
end Go.Proofs.YtjahmnenfknjgaaGreatDoor
namespace Go.Proofs.YtjahmnenfknjgaaGreatDoor

theorem bkl_range {bs : List Int} {n : Nat} (h : BkP bs n) : ∀ j, j ≤ bs.length → 0 ≤ bkl bs j ∧ bkl bs j ≤ n
  | 0, _ => by simp [bkl]
  | j + 1, hj => by
    have ih := bkl_range h j (by omega)
    have := h.2.1 j (by omega)
    rw [bkl_succ]; omega
theorem lineLv_length {cs : List Cl} {lv : List Int} {base : Int} {bs : List Int} {n : Nat} (h : BkP bs n) : ∀ j, j ≤ bs.length → (lineLv cs lv base bs j).length = (bkl bs j).toNat
  | 0, _ => by simp [lineLv, bkl]
  | j + 1, hj => by
    have ih := lineLv_length (cs := cs) (lv := lv) (base := base) h j (by omega)
    have h1 := bkl_range h j (by omega)
    have h2 := h.2.1 j (by omega)
    unfold lineLv; rw [List.length_append, ih, ofLine_length, bkl_succ]; omega
end Go.Proofs.YtjahmnenfknjgaaGreatDoor
namespace Go.Proofs.YtjahmnenfknjgaaGreatDoor

/-- Places a up to b of a list, the outermost s pairs swapped. -/
def swS (l : List Nat) (a b s : Nat) : List Nat := (List.range l.length).map fun p => if a ≤ p ∧ p < b ∧ (p < a + s ∨ b ≤ p + s) then nat l (a + (b - 1) - p) else nat l p
theorem swS_length (l : List Nat) (a b s : Nat) : (swS l a b s).length = l.length := by simp [swS]
theorem nat_swS {l : List Nat} {a b s p : Nat} (h : p < l.length) : nat (swS l a b s) p = if a ≤ p ∧ p < b ∧ (p < a + s ∨ b ≤ p + s) then nat l (a + (b - 1) - p) else nat l p := by simp [nat, swS, h]
theorem nat_set {l : List Nat} {i : Nat} {x : Nat} (h : i < l.length) (p : Nat) : nat (l.set i x) p = if p = i then x else nat l p := by
  by_cases e : p = i
  · subst e; simp [nat, h]
  · rw [if_neg e]; simp [nat, List.getElem?_set_ne (fun h => e h.symm)]
theorem nats_ext {l m : List Nat} (hl : l.length = m.length) (h : ∀ p, p < l.length → nat l p = nat m p) : l = m := by
  apply List.ext_getElem hl
  intro i h1 h2
  rw [nat_eq h1, nat_eq h2]; exact h i h1
theorem swS_zero (l : List Nat) (a b : Nat) : swS l a b 0 = l := by
  refine nats_ext (swS_length _ _ _ _) fun p hp => ?_
  rw [swS_length] at hp
  rw [nat_swS hp, if_neg (by omega)]
theorem swS_step {l : List Nat} {a b s : Nat} (hb : b ≤ l.length) (h : a + s < b - 1 - s) : ((swS l a b s).set (a + s) (nat (swS l a b s) (b - 1 - s))).set (b - 1 - s) (nat (swS l a b s) (a + s)) = swS l a b (s + 1) := by
  have h1 : a + s < l.length := by omega
  have h2 : b - 1 - s < l.length := by omega
  have e1 : nat (swS l a b s) (b - 1 - s) = nat l (b - 1 - s) := by rw [nat_swS h2, if_neg (by omega)]
  have e2 : nat (swS l a b s) (a + s) = nat l (a + s) := by rw [nat_swS h1, if_neg (by omega)]
  rw [e1, e2]
  refine nats_ext (by simp [swS_length]) fun p hp => ?_
  simp only [List.length_set, swS_length] at hp
  rw [nat_set (by simp [swS_length, h2]), nat_set (by simp [swS_length, h1]), nat_swS hp, nat_swS hp]
  by_cases c1 : p = b - 1 - s
  · subst c1
    rw [if_pos rfl, if_pos (by omega)]; congr 1; omega
  · rw [if_neg c1]
    by_cases c2 : p = a + s
    · subst c2
      rw [if_pos rfl, if_pos (by omega)]; congr 1; omega
    · rw [if_neg c2]
      by_cases c3 : a ≤ p ∧ p < b ∧ (p < a + s ∨ b ≤ p + s)
      · rw [if_pos c3, if_pos (by omega)]
      · rw [if_neg c3, if_neg (by omega)]
/-- When the two have met, all is turned round. -/
theorem swS_end {l : List Nat} {a b s : Nat} (hb : b ≤ l.length) (hab : a ≤ b) (h : ¬ a + s < b - 1 - s) (hs : s ≤ b - a) : swS l a b s = l.take a ++ ((l.drop a).take (b - a)).reverse ++ l.drop b := by
  have hlen : (l.take a ++ ((l.drop a).take (b - a)).reverse ++ l.drop b).length = l.length := by simp; omega
  refine nats_ext (by rw [hlen, swS_length]) fun p hp => ?_
  rw [swS_length] at hp
  rw [nat_swS hp]
  have key : nat (l.take a ++ ((l.drop a).take (b - a)).reverse ++ l.drop b) p = if a ≤ p ∧ p < b then nat l (a + (b - 1) - p) else nat l p := by
    unfold nat
    by_cases c1 : p < a
    · rw [if_neg (by omega), List.append_assoc, List.getD_eq_getElem?_getD, List.getD_eq_getElem?_getD, List.getElem?_append_left (by simp; omega), List.getElem?_take]
      simp [c1]
    · by_cases c2 : p < b
      · rw [if_pos (by omega), List.getD_eq_getElem?_getD, List.getD_eq_getElem?_getD, List.getElem?_append_left (by simp; omega), List.getElem?_append_right (by simp; omega)]
        have e : (l.take a).length = a := by simp; omega
        rw [e, List.getElem?_reverse (by simp; omega)]
        have e2 : ((l.drop a).take (b - a)).length = b - a := by simp; omega
        rw [e2, List.getElem?_take, if_pos (by omega), List.getElem?_drop]
        congr 2; omega
      · rw [if_neg (by omega), List.getD_eq_getElem?_getD, List.getD_eq_getElem?_getD, List.getElem?_append_right (by simp; omega)]
        have e : (l.take a ++ ((l.drop a).take (b - a)).reverse).length = b := by simp; omega
        rw [e, List.getElem?_drop]
        congr 2; omega
  rw [key]
  by_cases c : a ≤ p ∧ p < b
  · rw [if_pos c]
    by_cases c3 : p < a + s ∨ b ≤ p + s
    · rw [if_pos ⟨c.1, c.2, c3⟩]
    · rw [if_neg (fun x => c3 x.2.2)]
      congr 1; omega
  · rw [if_neg c, if_neg (fun x => c ⟨x.1, x.2.1⟩)]

/-- Every block, as great as may be, of what P holds of is turned round. -/
def revAux (P : Nat → Bool) : List Nat → List Nat → List Nat
  | acc, [] => acc
  | acc, x :: l => if P x then revAux P (x :: acc) l else acc ++ x :: revAux P [] l
def revB (P : Nat → Bool) (l : List Nat) : List Nat := revAux P [] l
theorem revAux_all {P : Nat → Bool} : ∀ (B acc r : List Nat), (∀ x, x ∈ B → P x = true) → revAux P acc (B ++ r) = revAux P (B.reverse ++ acc) r
  | [], acc, r, _ => rfl
  | x :: B, acc, r, h => by
    simp only [List.cons_append, revAux, h x (by simp), if_true]
    rw [revAux_all B (x :: acc) r (fun y hy => h y (by simp [hy]))]
    simp
theorem revB_stop {P : Nat → Bool} {B r : List Nat} {x : Nat} (h : ∀ y, y ∈ B → P y = true) (hx : P x = false) : revB P (B ++ x :: r) = B.reverse ++ x :: revB P r := by
  unfold revB; rw [revAux_all B [] _ h]; simp [revAux, hx]
theorem revB_end {P : Nat → Bool} {B : List Nat} (h : ∀ y, y ∈ B → P y = true) : revB P B = B.reverse := by
  have := revAux_all B [] [] h
  unfold revB; rw [List.append_nil] at this; rw [this]; simp [revAux]
theorem revAux_length (P : Nat → Bool) : ∀ (l acc : List Nat), (revAux P acc l).length = acc.length + l.length
  | [], acc => by simp [revAux]
  | x :: l, acc => by
    unfold revAux; split
    · rw [revAux_length P l]; simp; omega
    · simp [revAux_length P l []]
theorem revB_length (P : Nat → Bool) (l : List Nat) : (revB P l).length = l.length := by unfold revB; rw [revAux_length]; simp
/-- L2 from the greatest level down to 1. -/
def geq (lv : List Int) (v : Int) (x : Nat) : Bool := decide (v ≤ nth lv x)
def down (lv : List Int) : Nat → List Nat → List Nat
  | 0, l => l
  | m + 1, l => down lv m (revB (geq lv ((m + 1 : Nat) : Int)) l)
def most (lv : List Int) : Nat → Int
  | 0 => 0
  | j + 1 => max (most lv j) (nth lv j)
theorem most_nonneg (lv : List Int) : ∀ j, 0 ≤ most lv j
  | 0 => by simp [most]
  | j + 1 => by have := most_nonneg lv j; unfold most; omega
def visual (lv : List Int) : List Nat := down lv (most lv lv.length).toNat (kept lv lv.length)
def AllLt (n : Nat) (l : List Nat) : Prop := ∀ p, p < l.length → nat l p < n
theorem AllLt.mem {n : Nat} {l : List Nat} (h : AllLt n l) : ∀ x, x ∈ l → x < n := fun x hx => by
  obtain ⟨i, hi, rfl⟩ := List.getElem_of_mem hx
  rw [nat_eq hi]; exact h i hi
theorem AllLt.of_mem {n : Nat} {l : List Nat} (h : ∀ x, x ∈ l → x < n) : AllLt n l := fun p hp => by rw [← nat_eq hp]; exact h _ (List.getElem_mem hp)
theorem AllLt.swS {n : Nat} {l : List Nat} (h : AllLt n l) (a b s : Nat) (hb : b ≤ l.length) : AllLt n (swS l a b s) := fun p hp => by
  rw [swS_length] at hp
  rw [nat_swS hp]; split
  · exact h _ (by omega)
  · exact h p hp
theorem kept_lt (lv : List Int) : AllLt lv.length (kept lv lv.length) := .of_mem fun x hx => by
  have := List.mem_filter.1 hx
  simpa using this.1
theorem kept_len (lv : List Int) (n : Nat) : (kept lv n).length ≤ n := by have := List.length_filter_le (fun q => nth lv q != -1) (List.range n); simpa [kept] using this
/-- What stands at place i of a pass: D is done, r is left. -/
structure Pass (P : Nat → Bool) (l c : List Nat) (i : Nat) (D r : List Nat) : Prop where
  eq : c = D ++ r
  rev : revB P l = D ++ revB P r
  at_ : i = D.length ∨ (r = [] ∧ i = D.length + 1)
theorem Pass.start (P : Nat → Bool) (l : List Nat) : Pass P l l 0 [] l := ⟨rfl, rfl, .inl rfl⟩
theorem Pass.done {P : Nat → Bool} {l c : List Nat} {i : Nat} {D r : List Nat} (h : Pass P l c i D r) (hi : c.length ≤ i) : c = revB P l := by
  have h1 := h.eq
  have h2 := h.rev
  have : r = [] := by
    rcases h.at_ with e | e
    · have := congrArg List.length h1; simp at this; exact List.eq_nil_of_length_eq_zero (by omega)
    · exact e.1
  subst this
  rw [h1, h2]; rfl
/-- One block of T turned round, and the one behind it left alone. -/
theorem Pass.step {P : Nat → Bool} {l c : List Nat} {D r : List Nat} {T s : Nat} (h : Pass P l c D.length D r) (hT : T ≤ r.length) (hP : ∀ q, q < T → P (nat c (D.length + q)) = true) (hE : T < r.length → P (nat c (D.length + T)) = false)
    (hs : ¬ D.length + s < D.length + T - 1 - s) (hs2 : s ≤ T) :
    ∃ D' r', Pass P l (swS c D.length (D.length + T) s) (D.length + T + 1) D' r' := by
  have hc := h.eq
  have hcl : c.length = D.length + r.length := by rw [hc]; simp
  have hsw := swS_end (l := c) (a := D.length) (b := D.length + T) (s := s) (by omega) (by omega) (by omega) (by omega)
  have e1 : c.take D.length = D := by rw [hc]; simp
  have e2 : (c.drop D.length).take (D.length + T - D.length) = r.take T := by rw [hc]; simp
  have e3 : c.drop (D.length + T) = r.drop T := by rw [hc]; simp
  rw [e1, e2, e3] at hsw
  have hat : ∀ q, q < r.length → nat c (D.length + q) = nat r q := fun q hq => by
    rw [hc]; unfold nat; rw [List.getD_eq_getElem?_getD, List.getD_eq_getElem?_getD, List.getElem?_append_right (by omega), Nat.add_sub_cancel_left]
  have hB : ∀ y, y ∈ r.take T → P y = true := fun y hy => by
    obtain ⟨q, hq, rfl⟩ := List.getElem_of_mem hy
    have hq2 : q < T := by simp at hq; omega
    have := hP q hq2
    rw [hat q (by omega), ← nat_eq (by omega)] at this
    rw [List.getElem_take]; exact this
  by_cases e : T < r.length
  · have hx := hE e
    rw [hat T e, ← nat_eq e] at hx
    have hr : r = r.take T ++ r[T] :: r.drop (T + 1) := by rw [← List.drop_eq_getElem_cons e, List.take_append_drop]
    refine ⟨D ++ (r.take T).reverse ++ [r[T]], r.drop (T + 1), ⟨?_, ?_, ?_⟩⟩
    · rw [hsw, List.drop_eq_getElem_cons e]; simp
    · rw [h.rev]; conv => lhs; rw [hr]
      rw [revB_stop hB hx]; simp
    · left; simp; omega
  · have hT2 : T = r.length := by omega
    refine ⟨D ++ (r.take T).reverse, [], ⟨?_, ?_, ?_⟩⟩
    · rw [hsw, hT2]; simp
    · rw [hT2, List.take_length] at hB
      rw [h.rev, hT2, List.take_length, revB_end hB]; simp [revB, revAux]
    · right; simp [hT2]
end Go.Proofs.YtjahmnenfknjgaaGreatDoor
namespace Go.Proofs.YtjahmnenfknjgaaGreatDoor

def part (lv : List Int) (fr te : Nat) : List Int := (lv.drop fr).take (te - fr)
theorem part_length {lv : List Int} {fr te : Nat} (h : te ≤ lv.length) : (part lv fr te).length = te - fr := by simp [part]; omega
def lineOr (lv : List Int) (bs : List Int) : Nat → List Nat
  | 0 => []
  | j + 1 => lineOr lv bs j ++ (visual (part lv (bkl bs j).toNat (nth bs j).toNat)).map ((bkl bs j).toNat + ·)
def lineOrders (lv : List Int) (bs : List Int) : List Nat := lineOr lv bs bs.length
theorem down_length (lv : List Int) : ∀ (m : Nat) (l : List Nat), (down lv m l).length = l.length
  | 0, _ => rfl
  | m + 1, l => by unfold down; rw [down_length lv m, revB_length]
theorem visual_len (lv : List Int) : (visual lv).length ≤ lv.length := by unfold visual; rw [down_length]; exact kept_len _ _
theorem lineOr_len {lv : List Int} {bs : List Int} (h : BkP bs lv.length) : ∀ j, j ≤ bs.length → (lineOr lv bs j).length ≤ (bkl bs j).toNat
  | 0, _ => by simp [lineOr]
  | j + 1, hj => by
    have ih := lineOr_len h j (by omega)
    have h1 := bkl_range h j (by omega)
    have h2 := h.2.1 j (by omega)
    unfold lineOr; rw [List.length_append, List.length_map, bkl_succ]
    have h3 := visual_len (part lv (bkl bs j).toNat (nth bs j).toNat)
    rw [part_length (by omega)] at h3
    omega
theorem part_nth {lv : List Int} {fr te q : Nat} (h : te ≤ lv.length) (hq : q < te - fr) : nth (part lv fr te) q = nth lv (fr + q) := by
  simp [nth, part, List.getElem?_take, hq]
theorem revAux_perm (P : Nat → Bool) : ∀ (l acc : List Nat), (revAux P acc l).Perm (acc ++ l)
  | [], acc => by simp [revAux]
  | x :: l, acc => by
    unfold revAux; split
    · exact (revAux_perm P l (x :: acc)).trans List.perm_middle.symm
    · exact List.Perm.append_left _ (List.Perm.cons _ (revAux_perm P l []))
theorem revB_perm (P : Nat → Bool) (l : List Nat) : (revB P l).Perm l := revAux_perm P l []
theorem down_perm (lv : List Int) : ∀ (m : Nat) (l : List Nat), (down lv m l).Perm l
  | 0, _ => .refl _
  | m + 1, l => (down_perm lv m _).trans (revB_perm _ _)
theorem visual_perm (lv : List Int) : (visual lv).Perm (kept lv lv.length) := down_perm _ _ _
theorem visual_lt (lv : List Int) : AllLt lv.length (visual lv) := .of_mem fun x hx => (kept_lt lv).mem x ((visual_perm lv).mem_iff.1 hx)
end Go.Proofs.YtjahmnenfknjgaaGreatDoor
namespace Go.Proofs.YtjahmnenfknjgaaGreatDoor

/-- The matching initiators behind the first k places. -/
def msK (cs : List Cl) : Nat → List Int
  | 0 => List.replicate cs.length (-1)
  | k + 1 => if (cat cs k).isInit = true ∧ mOf cs k < cs.length then (msK cs k).set (mOf cs k) k else msK cs k
theorem msK_length (cs : List Cl) : ∀ k, (msK cs k).length = cs.length
  | 0 => by simp [msK]
  | k + 1 => by unfold msK; split <;> simp [msK_length cs k]
def msI (cs : List Cl) : List Int := msK cs cs.length
/-- The matching PDIs behind the first k places. -/
def pmK (cs : List Cl) (k : Nat) : List Int := (List.range cs.length).map fun q => if q < k then mAt cs q else 0
theorem pmK_length (cs : List Cl) (k : Nat) : (pmK cs k).length = cs.length := by simp [pmK]
theorem nth_pmK {cs : List Cl} {k q : Nat} (h : q < cs.length) : nth (pmK cs k) q = if q < k then mAt cs q else 0 := by simp [nth, pmK, h]
theorem pmK_zero (cs : List Cl) : pmK cs 0 = List.replicate cs.length 0 := by
  apply List.ext_getElem
  · simp [pmK]
  · intro i h1 h2
    rw [pmK_length] at h1
    rw [nth_eq, nth_pmK h1]; simp
theorem pmK_end (cs : List Cl) : pmK cs cs.length = mt cs := by
  apply List.ext_getElem
  · simp [pmK, mt]
  · intro i h1 h2
    rw [pmK_length] at h1
    rw [nth_eq, nth_pmK h1, nth_eq, nth_mt h1, if_pos h1]
theorem nth_set {l : List Int} {i : Nat} {x : Int} (h : i < l.length) (p : Nat) : nth (l.set i x) p = if p = i then x else nth l p := by
  by_cases e : p = i
  · subst e; simp [nth, h]
  · rw [if_neg e]; simp [nth, List.getElem?_set_ne (fun h => e h.symm)]
theorem nths_ext {l m : List Int} (hl : l.length = m.length) (h : ∀ p, p < l.length → nth l p = nth m p) : l = m := by
  apply List.ext_getElem hl
  intro i h1 h2
  rw [nth_eq, nth_eq]; exact h i h1
theorem pmK_set {cs : List Cl} {k : Nat} {x : Int} (h : k < cs.length) (hx : mAt cs k = x) : (pmK cs k).set k x = pmK cs (k + 1) := by
  refine nths_ext (by simp [pmK]) fun p hp => ?_
  rw [List.length_set, pmK_length] at hp
  rw [nth_set (by rw [pmK_length]; exact h), nth_pmK hp, nth_pmK hp]
  by_cases e : p = k
  · subst e; rw [if_pos rfl, if_pos (by omega), hx]
  · rw [if_neg e]
    by_cases e2 : p < k
    · rw [if_pos e2, if_pos (by omega)]
    · rw [if_neg e2, if_neg (by omega)]
/-- The scan for the matching PDI: from place j, d isolates open. -/
def scan (cs : List Cl) (d j : Nat) : Nat := (clz (d - 1) (cs.drop j) j).getD cs.length
theorem scan_start (cs : List Cl) (i : Nat) : scan cs 1 (i + 1) = mOf cs i := rfl
theorem scan_end {cs : List Cl} {d j : Nat} (h : cs.length ≤ j) : scan cs d j = cs.length := by
  unfold scan; rw [List.drop_eq_nil_of_le h]; rfl
theorem scan_init {cs : List Cl} {d j : Nat} (h : j < cs.length) (hd : 1 ≤ d) (hc : (cat cs j).isInit = true) : scan cs d j = scan cs (d + 1) (j + 1) := by
  unfold scan; rw [drop_cat h, clz_init hc, show d - 1 + 1 = d + 1 - 1 by omega]
theorem scan_pdi {cs : List Cl} {d j : Nat} (h : j < cs.length) (hd : 2 ≤ d) (hc : cat cs j = .PDI) : scan cs d j = scan cs (d - 1) (j + 1) := by
  unfold scan; rw [drop_cat h, hc, show d - 1 = (d - 2) + 1 by omega, clz_succ]; rfl
theorem scan_found {cs : List Cl} {j : Nat} (h : j < cs.length) (hc : cat cs j = .PDI) : scan cs 1 j = j := by
  unfold scan; rw [drop_cat h, hc]; simp only [Nat.sub_self, clz_zero]; rfl
theorem scan_other {cs : List Cl} {d j : Nat} (h : j < cs.length) (hc : (cat cs j).isInit = false) (hp : cat cs j ≠ .PDI) : scan cs d j = scan cs d (j + 1) := by
  unfold scan; rw [drop_cat h, clz_other hc hp]
end Go.Proofs.YtjahmnenfknjgaaGreatDoor
namespace Go.Proofs.YtjahmnenfknjgaaGreatDoor

theorem scan_le (cs : List Cl) (d j : Nat) (hj : j ≤ cs.length) : scan cs d j ≤ cs.length := by
  unfold scan
  cases e : clz (d - 1) (cs.drop j) j with
  | none => simp
  | some m =>
    have := (clz_ge _ _ _ _ e).2
    simp at this ⊢; omega
theorem scan_mono (cs : List Cl) (d j : Nat) (hd : 1 ≤ d) (hj : j ≤ cs.length) : scan cs d j ≤ scan cs (d + 1) j := by
  obtain ⟨d, rfl⟩ : ∃ d', d = d' + 1 := ⟨d - 1, by omega⟩
  cases e : clz (d + 1) (cs.drop j) j with
  | none =>
    have h1 : scan cs (d + 1 + 1) j = cs.length := by unfold scan; simp [e]
    rw [h1]; exact scan_le cs _ j hj
  | some m =>
    obtain ⟨m', h', hlt⟩ := clz_mono _ _ _ _ e
    have h1 : scan cs (d + 1 + 1) j = m := by unfold scan; simp [e]
    have h2 : scan cs (d + 1) j = m' := by unfold scan; simp [h']
    omega
theorem scan_mono_one (cs : List Cl) (j : Nat) (hj : j ≤ cs.length) : ∀ d, 1 ≤ d → scan cs 1 j ≤ scan cs d j
  | 0, h => by omega
  | 1, _ => Nat.le_refl _
  | d + 2, _ => Nat.le_trans (scan_mono_one cs j hj (d + 1) (by omega)) (scan_mono cs (d + 1) j (by omega) hj)
/-- Between an initiator and its end the scan goes on. -/
theorem scan_within {cs : List Cl} {i : Nat} (hi : i < cs.length) : ∀ t, i + 1 + t ≤ mOf cs i → ∃ d, 1 ≤ d ∧ scan cs d (i + 1 + t) = mOf cs i
  | 0, _ => ⟨1, Nat.le_refl _, scan_start cs i⟩
  | t + 1, h => by
    obtain ⟨d, hd, e⟩ := scan_within hi t (by omega)
    have hq : i + 1 + t < cs.length := by have := mOf_le cs i; omega
    by_cases h1 : (cat cs (i + 1 + t)).isInit = true
    · exact ⟨d + 1, by omega, by rw [← e, scan_init hq hd h1]; rfl⟩
    by_cases h2 : cat cs (i + 1 + t) = .PDI
    · by_cases hd1 : d = 1
      · subst hd1; rw [scan_found hq h2] at e; omega
      · exact ⟨d - 1, by omega, by rw [← e, scan_pdi hq (by omega) h2]; rfl⟩
    · exact ⟨d, hd, by rw [← e, scan_other hq (by simpa using h1) h2]; rfl⟩
theorem mOf_nest {cs : List Cl} {i q : Nat} (hi : i < cs.length) (h1 : i < q) (h2 : q < mOf cs i) (hq : (cat cs q).isInit = true) : mOf cs q ≤ mOf cs i := by
  obtain ⟨d, hd, e⟩ := scan_within hi (q - (i + 1)) (by omega)
  rw [show i + 1 + (q - (i + 1)) = q by omega] at e
  have hql : q < cs.length := by have := mOf_le cs i; omega
  rw [← e, scan_init hql hd hq, ← scan_start]
  exact scan_mono_one cs _ (by omega) _ (by omega)

/-- What an embedding or override gives its own place. -/
def embLv (s : XS) (odd base : Int) : Int := if nextLv s.top.lv odd ≤ 125 ∧ s.oi = 0 ∧ s.oe = 0 then nextLv s.top.lv odd else base
/-- The level of place i behind the package's X1 to X8. -/
def plv (cs : List Cl) (base : Int) (i : Nat) : Int :=
  match cat cs i with
  | .RLE => embLv (xs cs base i) 1 base
  | .RLO => embLv (xs cs base i) 1 base
  | .LRE => embLv (xs cs base i) 0 base
  | .LRO => embLv (xs cs base i) 0 base
  | .PDI => (xs cs base i).end_.top.lv
  | .B => base
  | _ => (xs cs base i).top.lv
/-- The class of place i behind the package's X1 to X8. -/
def pty (cs : List Cl) (base : Int) (i : Nat) : Cl :=
  match cat cs i with
  | .RLE => .RLE
  | .RLO => .RLO
  | .LRE => .LRE
  | .LRO => .LRO
  | .PDF => .PDF
  | .PDI => .PDI
  | .B => .B
  | c => (xs cs base i).top.ov.getD c
def plvK (cs : List Cl) (base : Int) (k : Nat) : List Int := (List.range cs.length).map fun q => if q < k then plv cs base q else base
def ptyK (cs : List Cl) (base : Int) (k : Nat) : List Cl := (List.range cs.length).map fun q => if q < k then pty cs base q else cat cs q
def plvs (cs : List Cl) (base : Int) : List Int := (List.range cs.length).map (plv cs base)
def ptys (cs : List Cl) (base : Int) : List Cl := (List.range cs.length).map (pty cs base)
theorem plvK_length (cs : List Cl) (base : Int) (k : Nat) : (plvK cs base k).length = cs.length := by simp [plvK]
theorem ptyK_length (cs : List Cl) (base : Int) (k : Nat) : (ptyK cs base k).length = cs.length := by simp [ptyK]
theorem plvs_length (cs : List Cl) (base : Int) : (plvs cs base).length = cs.length := by simp [plvs]
theorem ptys_length (cs : List Cl) (base : Int) : (ptys cs base).length = cs.length := by simp [ptys]
theorem nth_plvs {cs : List Cl} {base : Int} {q : Nat} (h : q < cs.length) : nth (plvs cs base) q = plv cs base q := by simp [nth, plvs, h]
theorem cat_ptys {cs : List Cl} {base : Int} {q : Nat} (h : q < cs.length) : cat (ptys cs base) q = pty cs base q := by simp [cat, ptys, h]
theorem nth_plvK {cs : List Cl} {base : Int} {k q : Nat} (h : q < cs.length) : nth (plvK cs base k) q = if q < k then plv cs base q else base := by simp [nth, plvK, h]
theorem cat_ptyK {cs : List Cl} {base : Int} {k q : Nat} (h : q < cs.length) : cat (ptyK cs base k) q = if q < k then pty cs base q else cat cs q := by simp [cat, ptyK, h]
theorem cat_set {l : List Cl} {i : Nat} {x : Cl} (h : i < l.length) (p : Nat) : cat (l.set i x) p = if p = i then x else cat l p := by
  by_cases e : p = i
  · subst e; rw [cat_set_self h, if_pos rfl]
  · rw [if_neg e, cat_set_ne (fun h => e h.symm)]
theorem plvK_zero (cs : List Cl) (base : Int) : plvK cs base 0 = List.replicate cs.length base := by
  refine nths_ext (by simp [plvK]) fun p hp => ?_
  rw [plvK_length] at hp
  rw [nth_plvK hp, if_neg (by omega), nth_replicate hp]
theorem ptyK_zero (cs : List Cl) (base : Int) : ptyK cs base 0 = cs := by
  refine ext_cat (ptyK_length _ _ _) fun p hp => ?_
  rw [ptyK_length] at hp
  rw [cat_ptyK hp, if_neg (by omega)]
theorem plvK_end (cs : List Cl) (base : Int) : plvK cs base cs.length = plvs cs base := by
  refine nths_ext (by simp [plvK, plvs]) fun p hp => ?_
  rw [plvK_length] at hp
  rw [nth_plvK hp, if_pos hp, nth_plvs hp]
theorem ptyK_end (cs : List Cl) (base : Int) : ptyK cs base cs.length = ptys cs base := by
  refine ext_cat (by simp [ptyK, ptys]) fun p hp => ?_
  rw [ptyK_length] at hp
  rw [cat_ptyK hp, if_pos hp, cat_ptys hp]
theorem plvK_set {cs : List Cl} {base : Int} {k : Nat} {x : Int} (h : k < cs.length) (hx : plv cs base k = x) : (plvK cs base k).set k x = plvK cs base (k + 1) := by
  refine nths_ext (by simp [plvK]) fun p hp => ?_
  rw [List.length_set, plvK_length] at hp
  rw [nth_set (by rw [plvK_length]; exact h), nth_plvK hp, nth_plvK hp]
  by_cases e : p = k
  · subst e; rw [if_pos rfl, if_pos (by omega), hx]
  · rw [if_neg e]
    by_cases e2 : p < k
    · rw [if_pos e2, if_pos (by omega)]
    · rw [if_neg e2, if_neg (by omega)]
theorem plvK_same {cs : List Cl} {base : Int} {k : Nat} (h : k < cs.length) (hx : plv cs base k = base) : plvK cs base k = plvK cs base (k + 1) := by
  refine nths_ext (by simp [plvK]) fun p hp => ?_
  rw [plvK_length] at hp
  rw [nth_plvK hp, nth_plvK hp]
  by_cases e : p = k
  · subst e; rw [if_neg (by omega), if_pos (by omega), hx]
  · by_cases e2 : p < k
    · rw [if_pos e2, if_pos (by omega)]
    · rw [if_neg e2, if_neg (by omega)]
theorem ptyK_set {cs : List Cl} {base : Int} {k : Nat} {x : Cl} (h : k < cs.length) (hx : pty cs base k = x) : (ptyK cs base k).set k x = ptyK cs base (k + 1) := by
  refine ext_cat (by simp [ptyK]) fun p hp => ?_
  rw [List.length_set, ptyK_length] at hp
  rw [cat_set (by rw [ptyK_length]; exact h), cat_ptyK hp, cat_ptyK hp]
  by_cases e : p = k
  · subst e; rw [if_pos rfl, if_pos (by omega), hx]
  · rw [if_neg e]
    by_cases e2 : p < k
    · rw [if_pos e2, if_pos (by omega)]
    · rw [if_neg e2, if_neg (by omega)]
theorem ptyK_same {cs : List Cl} {base : Int} {k : Nat} (h : k < cs.length) (hx : pty cs base k = cat cs k) : ptyK cs base k = ptyK cs base (k + 1) := by
  refine ext_cat (by simp [ptyK]) fun p hp => ?_
  rw [ptyK_length] at hp
  rw [cat_ptyK hp, cat_ptyK hp]
  by_cases e : p = k
  · subst e; rw [if_neg (by omega), if_pos (by omega), hx]
  · by_cases e2 : p < k
    · rw [if_pos e2, if_pos (by omega)]
    · rw [if_neg e2, if_neg (by omega)]
end Go.Proofs.YtjahmnenfknjgaaGreatDoor
namespace Go.Proofs.YtjahmnenfknjgaaGreatDoor

/-- Classes that neither push nor pop. -/
def dull (c : Cl) : Bool := match c with
  | .RLE => false | .LRE => false | .RLO => false | .LRO => false | .RLI => false | .LRI => false | .FSI => false | .PDI => false | .PDF => false | .B => false | _ => true
theorem dull_tests {c : Cl} (h : dull c = true) : (c.e2 == 19) = false ∧ (c.e2 == 18) = false ∧ (c.e2 == 17) = false ∧ (c.e2 == 16) = false ∧ (c.e2 == 22) = false ∧ (c.e2 == 21) = false ∧ (c.e2 == 23) = false ∧ (c.e2 == 24) = false ∧ (c.e2 == 20) = false ∧ (c.e2 == 7) = false := by
  revert h; cases c <;> decide
theorem xs_dull {cs : List Cl} {base : Int} {j : Nat} (h : dull (cat cs j) = true) : xs cs base (j + 1) = xs cs base j := by
  rw [xs, xstep]; revert h; cases cat cs j <;> first | (intro _; rfl) | (intro h; exact absurd h (by decide))
theorem plv_dull {cs : List Cl} {base : Int} {j : Nat} (h : dull (cat cs j) = true) : plv cs base j = (xs cs base j).top.lv := by
  rw [plv]; revert h; cases cat cs j <;> first | (intro _; rfl) | (intro h; exact absurd h (by decide))
theorem pty_dull {cs : List Cl} {base : Int} {j : Nat} (h : dull (cat cs j) = true) : pty cs base j = (xs cs base j).top.ov.getD (cat cs j) := by
  rw [pty]; revert h; cases cat cs j <;> first | (intro _; rfl) | (intro h; exact absurd h (by decide))
/-- Which way an isolate's text runs. -/
def initOdd (cs : List Cl) (j : Nat) : Int := match cat cs j with
  | .RLI => 1 | .FSI => fsLev cs (j + 1) (mOf cs j) | _ => 0
theorem initOdd_range (cs : List Cl) (j : Nat) : initOdd cs j = 0 ∨ initOdd cs j = 1 := by
  unfold initOdd; split
  · exact .inr rfl
  · exact fsLev_range _ _ _
  · exact .inl rfl
theorem xs_init {cs : List Cl} {base : Int} {j : Nat} (h : (cat cs j).isInit = true) : xs cs base (j + 1) = (xs cs base j).begin_ (initOdd cs j) := by
  rw [xs, xstep, initOdd]; revert h; cases cat cs j <;> first | (intro _; rfl) | (intro h; exact absurd h (by decide))
theorem plv_init {cs : List Cl} {base : Int} {j : Nat} (h : (cat cs j).isInit = true) : plv cs base j = (xs cs base j).top.lv := by
  rw [plv]; revert h; cases cat cs j <;> first | (intro _; rfl) | (intro h; exact absurd h (by decide))
theorem pty_init {cs : List Cl} {base : Int} {j : Nat} (h : (cat cs j).isInit = true) : pty cs base j = (xs cs base j).top.ov.getD (cat cs j) := by
  rw [pty]; revert h; cases cat cs j <;> first | (intro _; rfl) | (intro h; exact absurd h (by decide))
/-- An embedding or override. -/
def isEmb (c : Cl) : Bool := match c with
  | .RLE => true | .LRE => true | .RLO => true | .LRO => true | _ => false
def embOdd (c : Cl) : Int := match c with
  | .RLE => 1 | .RLO => 1 | _ => 0
def embOv (c : Cl) : Option Cl := match c with
  | .LRO => some .L | .RLO => some .R | _ => none
theorem embOdd_range (c : Cl) : embOdd c = 0 ∨ embOdd c = 1 := by cases c <;> first | exact .inl rfl | exact .inr rfl
theorem xs_emb {cs : List Cl} {base : Int} {j : Nat} (h : isEmb (cat cs j) = true) : xs cs base (j + 1) = (xs cs base j).embed (embOdd (cat cs j)) (embOv (cat cs j)) := by
  rw [xs, xstep]; revert h; cases cat cs j <;> first | (intro _; rfl) | (intro h; exact absurd h (by decide))
theorem plv_emb {cs : List Cl} {base : Int} {j : Nat} (h : isEmb (cat cs j) = true) : plv cs base j = embLv (xs cs base j) (embOdd (cat cs j)) base := by
  rw [plv]; revert h; cases cat cs j <;> first | (intro _; rfl) | (intro h; exact absurd h (by decide))
theorem pty_emb {cs : List Cl} {base : Int} {j : Nat} (h : isEmb (cat cs j) = true) : pty cs base j = cat cs j := by
  rw [pty]; revert h; cases cat cs j <;> first | (intro _; rfl) | (intro h; exact absurd h (by decide))
theorem xs_pdi {cs : List Cl} {base : Int} {j : Nat} (h : cat cs j = .PDI) : xs cs base (j + 1) = (xs cs base j).end_ := by rw [xs, xstep, h]
theorem plv_pdi {cs : List Cl} {base : Int} {j : Nat} (h : cat cs j = .PDI) : plv cs base j = (xs cs base j).end_.top.lv := by rw [plv, h]
theorem pty_pdi {cs : List Cl} {base : Int} {j : Nat} (h : cat cs j = .PDI) : pty cs base j = cat cs j := by rw [pty, h]
theorem xs_pdf {cs : List Cl} {base : Int} {j : Nat} (h : cat cs j = .PDF) : xs cs base (j + 1) = (xs cs base j).pop := by rw [xs, xstep, h]
theorem plv_pdf {cs : List Cl} {base : Int} {j : Nat} (h : cat cs j = .PDF) : plv cs base j = (xs cs base j).top.lv := by rw [plv, h]
theorem pty_pdf {cs : List Cl} {base : Int} {j : Nat} (h : cat cs j = .PDF) : pty cs base j = cat cs j := by rw [pty, h]
theorem plv_b {cs : List Cl} {base : Int} {j : Nat} (h : cat cs j = .B) : plv cs base j = base := by rw [plv, h]
theorem pty_b {cs : List Cl} {base : Int} {j : Nat} (h : cat cs j = .B) : pty cs base j = cat cs j := by rw [pty, h]
theorem class_cases (c : Cl) : dull c = true ∨ c.isInit = true ∨ isEmb c = true ∨ c = .PDI ∨ c = .PDF ∨ c = .B := by cases c <;> simp [dull, Cl.isInit, isEmb]
end Go.Proofs.YtjahmnenfknjgaaGreatDoor
namespace Go.Proofs.YtjahmnenfknjgaaGreatDoor

/-- W1 as the package does it: a mark takes what stands ahead of it. -/
def mkP (l : List Cl) (st : Cl) : Nat → Cl
  | 0 => if cat l 0 = .NSM then st else cat l 0
  | i + 1 => if cat l (i + 1) = .NSM then mkP l st i else cat l (i + 1)
def marksP (l : List Cl) (st : Cl) : List Cl := lst l.length (mkP l st)
/-- W1 to W7 as the package does them. -/
def weakP (l : List Cl) (st : Cl) : List Cl := weakR (marksP l st) st
theorem marksP_length (l : List Cl) (st : Cl) : (marksP l st).length = l.length := lst_length _ _
theorem weakP_length (l : List Cl) (st : Cl) : (weakP l st).length = l.length := by simp only [weakP, weakR_length, marksP_length]
/-- The class ahead of place i. -/
def preP (l : List Cl) (st : Cl) : Nat → Cl
  | 0 => st
  | i + 1 => mkP l st i
theorem mkP_nsm {l : List Cl} {st : Cl} {i : Nat} (h : cat l i = .NSM) : mkP l st i = preP l st i := by
  cases i <;> simp [mkP, preP, h]
theorem mkP_other {l : List Cl} {st : Cl} {i : Nat} (h : cat l i ≠ .NSM) : mkP l st i = cat l i := by
  cases i <;> simp [mkP, h]

/-- A list whose first k places have been turned by f. -/
def upTo (f : Nat → Cl) (l : List Cl) (k : Nat) : List Cl := (List.range l.length).map fun q => if q < k then f q else cat l q
theorem upTo_length (f : Nat → Cl) (l : List Cl) (k : Nat) : (upTo f l k).length = l.length := by simp [upTo]
theorem cat_upTo {f : Nat → Cl} {l : List Cl} {k q : Nat} (h : q < l.length) : cat (upTo f l k) q = if q < k then f q else cat l q := by simp [cat, upTo, h]
theorem upTo_zero (f : Nat → Cl) (l : List Cl) : upTo f l 0 = l := by
  refine ext_cat (upTo_length _ _ _) fun q hq => ?_
  rw [upTo_length] at hq
  rw [cat_upTo hq, if_neg (by omega)]
theorem upTo_end (f : Nat → Cl) (l : List Cl) : upTo f l l.length = lst l.length f := by
  refine ext_cat (by simp [upTo, lst]) fun q hq => ?_
  rw [upTo_length] at hq
  rw [cat_upTo hq, if_pos hq, cat_lst hq]
theorem upTo_set {f : Nat → Cl} {l : List Cl} {k : Nat} {x : Cl} (h : k < l.length) (hx : f k = x) : (upTo f l k).set k x = upTo f l (k + 1) := by
  refine ext_cat (by simp [upTo]) fun q hq => ?_
  rw [List.length_set, upTo_length] at hq
  rw [cat_set (by rw [upTo_length]; exact h), cat_upTo hq, cat_upTo hq]
  by_cases e : q = k
  · subst e; rw [if_pos rfl, if_pos (by omega), hx]
  · rw [if_neg e]
    by_cases e2 : q < k
    · rw [if_pos e2, if_pos (by omega)]
    · rw [if_neg e2, if_neg (by omega)]
theorem upTo_same {f : Nat → Cl} {l : List Cl} {k : Nat} (h : k < l.length) (hx : f k = cat l k) : upTo f l k = upTo f l (k + 1) := by
  refine ext_cat (by simp [upTo]) fun q hq => ?_
  rw [upTo_length] at hq
  rw [cat_upTo hq, cat_upTo hq]
  by_cases e : q = k
  · subst e; rw [if_neg (by omega), if_pos (by omega), hx]
  · by_cases e2 : q < k
    · rw [if_pos e2, if_pos (by omega)]
    · rw [if_neg e2, if_neg (by omega)]
theorem cat_upTo_at {f : Nat → Cl} {l : List Cl} {k : Nat} (h : k < l.length) : cat (upTo f l k) k = cat l k := by rw [cat_upTo h, if_neg (Nat.lt_irrefl k)]
theorem cat_upTo_lt {f : Nat → Cl} {l : List Cl} {k q : Nat} (h : q < l.length) (hq : q < k) : cat (upTo f l k) q = f q := by rw [cat_upTo h, if_pos hq]
theorem cat_upTo_ge {f : Nat → Cl} {l : List Cl} {k q : Nat} (h : q < l.length) (hq : k ≤ q) : cat (upTo f l k) q = cat l q := by rw [cat_upTo h, if_neg (by omega)]
theorem upTo_last {f : Nat → Cl} {l : List Cl} {k : Nat} (h : l.length ≤ k + 1) (hf : ∀ q, k ≤ q → q < l.length → f q = cat l q) : upTo f l k = lst l.length f := by
  refine ext_cat (by simp [upTo, lst]) fun q hq => ?_
  rw [upTo_length] at hq
  rw [cat_upTo hq, cat_lst hq]
  split
  · rfl
  · exact (hf q (by omega) hq).symm

/-- The list on the way through W5: what is done is w5; what is ahead is as it was, or w5 already. -/
structure W5K (l m : List Cl) (k : Nat) : Prop where
  len : m.length = l.length
  done : ∀ q, q < k → q < l.length → cat m q = w5 l q
  ahead : ∀ q, k ≤ q → q < l.length → cat m q = cat l q ∨ cat m q = w5 l q
theorem W5K.start (l : List Cl) : W5K l l 0 := ⟨rfl, fun q h => by omega, fun q _ _ => .inl rfl⟩
theorem W5K.fin {l m : List Cl} (h : W5K l m l.length) : m = w5L l := by
  refine ext_cat (by rw [h.len, w5L_length]) fun q hq => ?_
  rw [h.len] at hq
  rw [h.done q hq hq, w5L, cat_lst hq]
theorem w5_not {l : List Cl} {i : Nat} (h : cat l i ≠ .ET) : w5 l i = cat l i := by rw [w5, if_neg (fun x => h x.1)]
theorem w5_et {l : List Cl} {i : Nat} (h : cat l i = .ET) : w5 l i = .EN ∨ w5 l i = .ET := by
  unfold w5; split
  · exact .inl rfl
  · exact .inr h
theorem w5_en {l : List Cl} {i : Nat} (h : cat l i = .ET) : w5 l i = .EN ↔ (pe l i = true ∨ ne l i = true) := by
  unfold w5
  constructor
  · intro e; split at e
    · rename_i h2; exact h2.2
    · rw [h] at e; exact absurd e (by decide)
  · intro e; rw [if_pos ⟨h, e⟩]
theorem W5K.other {l m : List Cl} {k : Nat} (h : W5K l m k) (hk : k < l.length) (he : cat m k ≠ .ET) : W5K l m (k + 1) := by
  refine ⟨h.len, fun q hq hl => ?_, fun q hq hl => h.ahead q (by omega) hl⟩
  by_cases e : q = k
  · subst e
    rcases h.ahead q (Nat.le_refl _) hk with h1 | h1
    · rw [h1, w5_not (by rw [← h1]; exact he)]
    · exact h1
  · exact h.done q (by omega) hl
theorem W5K.et {l m : List Cl} {k q : Nat} (h : W5K l m k) (hk : k ≤ q) (hq : q < l.length) (he : cat m q = .ET) : cat l q = .ET := by
  rcases h.ahead q hk hq with h1 | h1
  · rw [← h1, he]
  · by_cases e : cat l q = .ET
    · exact e
    · rw [w5_not e] at h1; rw [← h1, he]
theorem pe_et {l : List Cl} {k : Nat} (h : cat l k = .ET) : pe l (k + 1) = pe l k := by simp [pe, h]
theorem pe_not {l : List Cl} {k : Nat} (h : cat l k ≠ .ET) : pe l (k + 1) = decide (cat l k = .EN) := by simp [pe, h]
/-- Along a run of ET the answers are the same. -/
theorem w5_run {l : List Cl} {k : Nat} : ∀ t, k + t < l.length → (∀ q, k ≤ q → q ≤ k + t → cat l q = .ET) → pe l (k + t) = pe l k ∧ ne l k = ne l (k + t)
  | 0, _, _ => ⟨rfl, rfl⟩
  | t + 1, hl, h => by
    obtain ⟨a, b⟩ := w5_run (l := l) (k := k) t (by omega) (fun q h1 h2 => h q h1 (by omega))
    refine ⟨by rw [← Nat.add_assoc, pe_et (h (k + t) (by omega) (by omega)), a], ?_⟩
    rw [b, ne_et (by omega) (h (k + t) (by omega) (by omega))]; rfl
/-- What W5 does with the run of ET from k to e. -/
theorem W5K.ahead_en {l m : List Cl} {k e : Nat} (h : W5K l m k) (hk : k < l.length) (hke : k < e) (hel : e ≤ l.length) (hr : ∀ q, k ≤ q → q < e → cat m q = .ET) (hs : e < l.length → cat m e ≠ .ET) :
    (w5 l k = .EN ↔ ((0 < k ∧ cat m (k - 1) = .EN) ∨ (e < l.length ∧ cat m e = .EN))) := by
  have hrl : ∀ q, k ≤ q → q < e → cat l q = .ET := fun q h1 h2 => h.et h1 (by omega) (hr q h1 h2)
  have hck := hrl k (Nat.le_refl _) hke
  rw [w5_en hck]
  obtain ⟨hp, hn⟩ := w5_run (l := l) (k := k) (e - 1 - k) (by omega) (fun q h1 h2 => hrl q h1 (by omega))
  rw [show k + (e - 1 - k) = e - 1 by omega] at hp hn
  -- what follows
  have hnx : ne l k = true ↔ (e < l.length ∧ (cat l e = .ET ∧ ne l e = true ∨ cat l e = .EN)) := by
    rw [hn, ne_et (by omega) (hrl (e - 1) (by omega) (by omega)), show e - 1 + 1 = e by omega]
    by_cases hel2 : e < l.length
    · by_cases he : cat l e = .ET
      · simp [hel2, he]
      · rw [ne_not hel2 he]; simp [hel2, he]
    · rw [ne_end (by omega)]; simp [hel2]
  have hpx : pe l k = true → (0 < k ∧ cat m (k - 1) = .EN) := by
    intro hp1
    cases k with
    | zero => simp [pe] at hp1
    | succ k =>
      refine ⟨by omega, ?_⟩
      simp only [Nat.add_sub_cancel]
      rw [h.done k (by omega) (by omega)]
      by_cases e1 : cat l k = .ET
      · rw [pe_et e1] at hp1; exact (w5_en e1).2 (.inl hp1)
      · rw [pe_not e1] at hp1; rw [w5_not e1]; simpa using hp1
  constructor
  · rintro (hp1 | hn1)
    · exact .inl (hpx hp1)
    · obtain ⟨hel2, hx⟩ := hnx.1 hn1
      refine .inr ⟨hel2, ?_⟩
      rcases hx with ⟨hx, hx2⟩ | hx
      · rcases h.ahead e (by omega) hel2 with h1 | h1
        · exact absurd (h1.trans hx) (hs hel2)
        · rw [h1]; exact (w5_en hx).2 (.inr hx2)
      · rcases h.ahead e (by omega) hel2 with h1 | h1
        · rw [h1, hx]
        · rw [h1, w5_not (by rw [hx]; decide), hx]
  · rintro (⟨h0, hx⟩ | ⟨hel2, hx⟩)
    · obtain ⟨k', rfl⟩ : ∃ k', k = k' + 1 := ⟨k - 1, by omega⟩
      simp only [Nat.add_sub_cancel] at hx
      rw [h.done k' (by omega) (by omega)] at hx
      by_cases e1 : cat l k' = .ET
      · rw [w5_en e1] at hx
        rw [pe_et e1, ← ne_et (by omega) e1]; exact hx
      · rw [w5_not e1] at hx
        left; rw [pe_not e1]; simpa using hx
    · by_cases e1 : cat l e = .ET
      · rcases h.ahead e (by omega) hel2 with h1 | h1
        · exact absurd (h1.trans e1) (hs hel2)
        · rw [h1] at hx
          rcases (w5_en e1).1 hx with h2 | h2
          · left
            rw [← hp, ← h2]
            have h3 := pe_et (hrl (e - 1) (by omega) (by omega))
            rw [show e - 1 + 1 = e by omega] at h3
            exact h3.symm
          · exact .inr (hnx.2 ⟨hel2, .inl ⟨e1, h2⟩⟩)
      · refine .inr (hnx.2 ⟨hel2, .inr ?_⟩)
        rcases h.ahead e (by omega) hel2 with h1 | h1
        · rw [← h1]; exact hx
        · rw [h1, w5_not e1] at hx; exact hx
theorem W5K.none {l m : List Cl} {k : Nat} (h : W5K l m k) (hk : k < l.length) (he : cat m k = .ET) (hw : w5 l k ≠ .EN) : W5K l m (k + 1) := by
  refine ⟨h.len, fun q hq hl => ?_, fun q hq hl => h.ahead q (by omega) hl⟩
  by_cases e : q = k
  · subst e
    rcases w5_et (h.et (Nat.le_refl _) hk he) with h1 | h1
    · exact absurd h1 hw
    · rw [h1, he]
  · exact h.done q (by omega) hl
theorem W5K.fill {l m m' : List Cl} {k e : Nat} (h : W5K l m k) (hk : k < l.length) (hke : k < e) (hel : e ≤ l.length) (hr : ∀ q, k ≤ q → q < e → cat m q = .ET) (hw : w5 l k = .EN)
    (hl' : m'.length = m.length) (hm' : ∀ q, q < m.length → cat m' q = if k ≤ q ∧ q < e then .EN else cat m q) : W5K l m' (k + 1) := by
  have hrl : ∀ q, k ≤ q → q < e → cat l q = .ET := fun q h1 h2 => h.et h1 (by omega) (hr q h1 h2)
  have hall : ∀ q, k ≤ q → q < e → w5 l q = .EN := by
    intro q h1 h2
    obtain ⟨hp, hn⟩ := w5_run (l := l) (k := k) (q - k) (by omega) (fun p h3 h4 => hrl p h3 (by omega))
    rw [show k + (q - k) = q by omega] at hp hn
    rw [w5_en (hrl q h1 h2), hp, ← hn, ← w5_en (hrl k (Nat.le_refl _) hke)]; exact hw
  refine ⟨by rw [hl', h.len], fun q hq hl => ?_, fun q hq hl => ?_⟩
  · rw [hm' q (by rw [h.len]; exact hl)]
    by_cases e1 : q = k
    · subst e1; rw [if_pos ⟨Nat.le_refl _, hke⟩, hall q (Nat.le_refl _) hke]
    · rw [if_neg (by omega)]; exact h.done q (by omega) hl
  · rw [hm' q (by rw [h.len]; exact hl)]
    split
    · rename_i h3; exact .inr (hall q h3.1 h3.2).symm
    · exact h.ahead q (by omega) hl
end Go.Proofs.YtjahmnenfknjgaaGreatDoor
namespace Go.Proofs.YtjahmnenfknjgaaGreatDoor

theorem stR_notNI (c : Cl) : (stR c).isNI = false := by unfold stR; split <;> rfl
theorem nb_notNI {l : List Cl} {sos : Cl} (h : sos = .L ∨ sos = .R) (k : Nat) : (nb l sos k).isNI = false := by
  rcases nb_strong (l := l) h k with e | e <;> rw [e] <;> rfl
theorem dirOf_notNI (x : Int) : (dirOf x).isNI = false := by rcases dirOf_strong x with e | e <;> rw [e] <;> rfl
theorem n12_notNI {l : List Cl} {lv : Int} {sos eos : Cl} (h : sos = .L ∨ sos = .R) (q : Nat) : (n12 l lv sos eos q).isNI = false := by
  unfold n12; split
  · split
    · exact nb_notNI h q
    · exact dirOf_notNI lv
  · rename_i h2; simpa using h2
theorem n12_not {l : List Cl} {lv : Int} {sos eos : Cl} {q : Nat} (h : (cat l q).isNI = false) : n12 l lv sos eos q = cat l q := by
  rw [n12, if_neg (by simp [h])]
/-- Place q lies in the run of neutrals that goes on at place k. -/
def inrun (l : List Cl) (k q : Nat) : Prop := 0 < k ∧ ∀ p, k - 1 ≤ p → p ≤ q → (cat l p).isNI = true
structure N5K (l : List Cl) (lv : Int) (sos eos : Cl) (m : List Cl) (k : Nat) : Prop where
  len : m.length = l.length
  done : ∀ q, q < k → q < l.length → cat m q = n12 l lv sos eos q
  ahd : ∀ q, k ≤ q → q < l.length → (inrun l k q ∧ cat m q = n12 l lv sos eos q) ∨ (¬ inrun l k q ∧ cat m q = cat l q)
theorem N5K.start (l : List Cl) (lv : Int) (sos eos : Cl) : N5K l lv sos eos l 0 :=
  ⟨rfl, fun q h => by omega, fun q _ _ => .inr ⟨fun h => absurd h.1 (by omega), rfl⟩⟩
theorem N5K.fin {l m : List Cl} {lv : Int} {sos eos : Cl} (h : N5K l lv sos eos m l.length) : m = neuS l lv sos eos := by
  refine ext_cat (by rw [h.len, neuS_length]) fun q hq => ?_
  rw [h.len] at hq
  rw [h.done q hq hq, neuS, cat_lst hq]
theorem inrun_succ {l : List Cl} {k q : Nat} (hk : inrun l k k) (hq : k + 1 ≤ q) : inrun l (k + 1) q ↔ inrun l k q := by
  constructor
  · rintro ⟨_, h⟩
    refine ⟨hk.1, fun p h1 h2 => ?_⟩
    by_cases e : p = k - 1
    · exact hk.2 p h1 (by omega)
    · exact h p (by simp; omega) h2
  · rintro ⟨_, h⟩
    exact ⟨by omega, fun p h1 h2 => h p (by simp at h1; omega) h2⟩
theorem N5K.other {l m : List Cl} {lv : Int} {sos eos : Cl} {k : Nat} (h : N5K l lv sos eos m k) (hk : k < l.length) (he : (cat m k).isNI = false) : N5K l lv sos eos m (k + 1) := by
  rcases h.ahd k (Nat.le_refl _) hk with ⟨h1, h2⟩ | ⟨h1, h2⟩
  · refine ⟨h.len, fun q hq hl => ?_, fun q hq hl => ?_⟩
    · by_cases e : q = k
      · subst e; exact h2
      · exact h.done q (by omega) hl
    · rw [inrun_succ h1 hq]; exact h.ahd q (by omega) hl
  · rw [h2] at he
    refine ⟨h.len, fun q hq hl => ?_, fun q hq hl => ?_⟩
    · by_cases e : q = k
      · subst e; rw [h2, n12_not he]
      · exact h.done q (by omega) hl
    · refine .inr ⟨fun hr => ?_, ?_⟩
      · have := hr.2 k (by simp) (by omega)
        rw [he] at this; exact absurd this (by decide)
      · rcases h.ahd q (by omega) hl with ⟨h3, _⟩ | ⟨_, h4⟩
        · have := h3.2 k (by omega) (by omega)
          rw [he] at this; exact absurd this (by decide)
        · exact h4
theorem nb_run {l : List Cl} {sos : Cl} {k : Nat} : ∀ t, (∀ q, k ≤ q → q < k + t → (cat l q).isNI = true) → nb l sos (k + t) = nb l sos k
  | 0, _ => rfl
  | t + 1, h => by
    rw [← Nat.add_assoc, nb, if_pos (h (k + t) (by omega) (by omega))]
    exact nb_run t fun q h1 h2 => h q h1 (by omega)
theorem na_run {l : List Cl} {eos : Cl} {k : Nat} : ∀ t, k + t ≤ l.length → (∀ q, k ≤ q → q < k + t → (cat l q).isNI = true) → na l eos k = na l eos (k + t)
  | 0, _, _ => rfl
  | t + 1, hl, h => by
    rw [na_run t (by omega) (fun q h1 h2 => h q h1 (by omega)), na_ni (by omega) (h (k + t) (by omega) (by omega))]; rfl
/-- What holds where a run of neutrals begins at place k and ends ahead of place e. -/
structure N5R (l m : List Cl) (lv : Int) (sos eos : Cl) (k e : Nat) : Prop where
  lead : k = 0 ∨ (0 < k ∧ (cat m (k - 1)).isNI = false ∧ cat m (k - 1) = cat l (k - 1) ∧ nb l sos k = stR (cat m (k - 1)))
  trail : (e = l.length ∧ na l eos e = eos) ∨ (e < l.length ∧ na l eos e = stR (cat m e) ∧ cat m e = cat l e)
  res : ∀ q, k ≤ q → q < e → n12 l lv sos eos q = if nb l sos k = na l eos e then nb l sos k else dirOf lv
  nrun : ¬ inrun l k k
theorem N5K.run {l m : List Cl} {lv : Int} {sos eos : Cl} {k e : Nat} (h : N5K l lv sos eos m k) (hs : sos = .L ∨ sos = .R) (hk : k < l.length) (hke : k < e) (hel : e ≤ l.length)
    (hr : ∀ q, k ≤ q → q < e → (cat m q).isNI = true) (hst : e < l.length → (cat m e).isNI = false) : N5R l m lv sos eos k e := by
  have hmq : ∀ q, k ≤ q → q < l.length → (cat m q).isNI = true → ¬ inrun l k q ∧ cat m q = cat l q := fun q h1 h2 h3 => by
    rcases h.ahd q h1 h2 with ⟨_, h5⟩ | h4
    · rw [h5, n12_notNI hs] at h3; exact absurd h3 (by decide)
    · exact h4
  have hck := hmq k (Nat.le_refl _) hk (hr k (Nat.le_refl _) hke)
  have hrl : ∀ q, k ≤ q → q < e → (cat l q).isNI = true := fun q h1 h2 => by
    rw [← (hmq q h1 (by omega) (hr q h1 h2)).2]; exact hr q h1 h2
  have hck2 := hrl k (Nat.le_refl _) hke
  have hnb := fun q (h1 : k ≤ q) (h2 : q < e) => by
    have := nb_run (l := l) (sos := sos) (k := k) (q - k) (fun p h3 h4 => hrl p h3 (by omega))
    rw [show k + (q - k) = q by omega] at this; exact this
  have hna := fun q (h1 : k ≤ q) (h2 : q < e) => by
    have := na_run (l := l) (eos := eos) (k := q + 1) (e - (q + 1)) (by omega) (fun p h3 h4 => hrl p (by omega) (by omega))
    rw [show q + 1 + (e - (q + 1)) = e by omega] at this; exact this
  refine ⟨?_, ?_, fun q h1 h2 => ?_, hck.1⟩
  · by_cases h0 : k = 0
    · exact .inl h0
    · right
      have hp : (cat l (k - 1)).isNI = false := by
        cases hh : (cat l (k - 1)).isNI with
        | false => rfl
        | true =>
          exact absurd ⟨by omega, fun p h1 h2 => by
            by_cases e1 : p = k - 1
            · subst e1; exact hh
            · have : p = k := by omega
              subst this; exact hck2⟩ hck.1
      have hd := h.done (k - 1) (by omega) (by omega)
      rw [n12_not hp] at hd
      refine ⟨by omega, by rw [hd]; exact hp, hd, ?_⟩
      obtain ⟨k', rfl⟩ : ∃ k', k = k' + 1 := ⟨k - 1, by omega⟩
      simp only [Nat.add_sub_cancel] at hd hp
      rw [nb, if_neg (by simp [hp]), Nat.add_sub_cancel, hd]
  · by_cases he : e < l.length
    · right
      have hme := hst he
      rcases h.ahd e (by omega) he with ⟨h4, _⟩ | ⟨_, h5⟩
      · exact absurd ⟨h4.1, fun p h1 h2 => h4.2 p h1 (by omega)⟩ hck.1
      · exact ⟨he, by rw [na_not he (by rw [← h5]; exact hme), h5], h5⟩
    · have : e = l.length := by omega
      exact .inl ⟨this, na_end (by omega)⟩
  · rw [n12, if_pos (hrl q h1 h2), hnb q h1 h2, hna q h1 h2]
theorem N5K.fill {l m m' : List Cl} {lv : Int} {sos eos x : Cl} {k e : Nat} (h : N5K l lv sos eos m k) (hk : k < l.length) (hke : k < e) (hel : e ≤ l.length) (hR : N5R l m lv sos eos k e)
    (hr : ∀ q, k ≤ q → q < e → (cat m q).isNI = true) (hs : sos = .L ∨ sos = .R) (hst : e < l.length → (cat m e).isNI = false)
    (hx : x = if nb l sos k = na l eos e then nb l sos k else dirOf lv) (hl' : m'.length = m.length) (hm' : ∀ q, q < m.length → cat m' q = if k ≤ q ∧ q < e then x else cat m q) : N5K l lv sos eos m' (k + 1) := by
  have hmq : ∀ q, k ≤ q → q < l.length → (cat m q).isNI = true → cat m q = cat l q := fun q h1 h2 h3 => by
    rcases h.ahd q h1 h2 with ⟨_, h5⟩ | h4
    · rw [h5, n12_notNI hs] at h3; exact absurd h3 (by decide)
    · exact h4.2
  have hrl : ∀ q, k ≤ q → q < e → (cat l q).isNI = true := fun q h1 h2 => by
    rw [← hmq q h1 (by omega) (hr q h1 h2)]; exact hr q h1 h2
  refine ⟨by rw [hl', h.len], fun q hq hl => ?_, fun q hq hl => ?_⟩
  · rw [hm' q (by rw [h.len]; exact hl)]
    by_cases e1 : q = k
    · subst e1; rw [if_pos ⟨Nat.le_refl _, hke⟩, hR.res q (Nat.le_refl _) hke, hx]
    · rw [if_neg (by omega)]; exact h.done q (by omega) hl
  · rw [hm' q (by rw [h.len]; exact hl)]
    by_cases h3 : q < e
    · rw [if_pos ⟨by omega, h3⟩]
      exact .inl ⟨⟨by omega, fun p h4 h5 => hrl p (by simp at h4; omega) (by omega)⟩, by rw [hR.res q (by omega) h3, hx]⟩
    · rw [if_neg (by omega)]
      refine .inr ⟨fun hi => ?_, ?_⟩
      · have h6 := hi.2 e (by simp; omega) (by omega)
        rcases hR.trail with ⟨h7, _⟩ | ⟨h7, _, h8⟩
        · omega
        · rw [← h8, hst h7] at h6; exact absurd h6 (by decide)
      · rcases h.ahd q (by omega) hl with ⟨h4, _⟩ | ⟨_, h5⟩
        · exact absurd ⟨h4.1, fun p h6 h7 => h4.2 p h6 (by omega)⟩ hR.nrun
        · exact h5
end Go.Proofs.YtjahmnenfknjgaaGreatDoor
namespace Go.Proofs.YtjahmnenfknjgaaGreatDoor

/-- The levels, -1 where X9 removes. -/
def klv (cs : List Cl) (V : List Int) : List Int := (List.range cs.length).map fun q => if (cat cs q).isRem then -1 else nth V q
theorem klv_length (cs : List Cl) (V : List Int) : (klv cs V).length = cs.length := by simp [klv]
theorem nth_klv {cs : List Cl} {V : List Int} {q : Nat} (h : q < cs.length) : nth (klv cs V) q = if (cat cs q).isRem then -1 else nth V q := by simp [nth, klv, h]
/-- The runs so far: those that are wrapped up, and the last one. -/
def RunSt (kl : List Int) (j : Nat) (R : List (List Nat)) (x : List Nat) (last : Int) : Prop :=
  (last = -1 ∧ R = [] ∧ x = [] ∧ rst kl j = ([], -1)) ∨ (0 ≤ last ∧ x ≠ [] ∧ rst kl j = (R ++ [x], last))
theorem RunSt.start (kl : List Int) : RunSt kl 0 [] [] (-1) := .inl ⟨rfl, rfl, rfl, rfl⟩
theorem RunSt.skip {kl : List Int} {j : Nat} {R : List (List Nat)} {x : List Nat} {last : Int} (h : RunSt kl j R x last) (hj : nth kl j = -1) : RunSt kl (j + 1) R x last := by
  unfold RunSt; rw [rst_skip hj]; exact h
theorem RunSt.same {kl : List Int} {j : Nat} {R : List (List Nat)} {x : List Nat} {last : Int} (h : RunSt kl j R x last) (hj : 0 ≤ nth kl j) (he : nth kl j = last) : RunSt kl (j + 1) R (x ++ [j]) last := by
  rcases h with ⟨h1, _⟩ | ⟨h1, h2, h3⟩
  · omega
  · refine .inr ⟨h1, by simp, ?_⟩
    rw [rst_same (by omega) (by rw [h3]; exact he), h3]
    simp [lat]
theorem RunSt.first {kl : List Int} {j : Nat} {R : List (List Nat)} {x : List Nat} (h : RunSt kl j R x (-1)) (hj : 0 ≤ nth kl j) : RunSt kl (j + 1) R (x ++ [j]) (nth kl j) := by
  rcases h with ⟨h1, rfl, rfl, h3⟩ | ⟨h1, h2, h3⟩
  · refine .inr ⟨hj, by simp, ?_⟩
    rw [rst_new (by omega) (by rw [h3]; simp only; omega), h3]; rfl
  · omega
theorem RunSt.next {kl : List Int} {j : Nat} {R : List (List Nat)} {x : List Nat} {last : Int} (h : RunSt kl j R x last) (h0 : 0 ≤ last) (hj : 0 ≤ nth kl j) (he : nth kl j ≠ last) : RunSt kl (j + 1) (R ++ [x]) [j] (nth kl j) := by
  rcases h with ⟨h1, _⟩ | ⟨h1, h2, h3⟩
  · omega
  · refine .inr ⟨hj, by simp, ?_⟩
    rw [rst_new (by omega) (by rw [h3]; exact he), h3]
theorem RunSt.fin_none {kl : List Int} {R : List (List Nat)} {x : List Nat} {last : Int} (h : RunSt kl kl.length R x last) (hx : x = []) : runs kl = R := by
  rcases h with ⟨h1, h2, h3, h4⟩ | ⟨h1, h2, h3⟩
  · rw [runs, h4, h2]
  · exact absurd hx h2
theorem RunSt.fin_some {kl : List Int} {R : List (List Nat)} {x : List Nat} {last : Int} (h : RunSt kl kl.length R x last) (hx : x ≠ []) : runs kl = R ++ [x] := by
  rcases h with ⟨h1, h2, h3, h4⟩ | ⟨h1, h2, h3⟩
  · exact absurd h3 hx
  · rw [runs, h3]
theorem RunSt.len {kl : List Int} {j : Nat} {R : List (List Nat)} {x : List Nat} {last : Int} (h : RunSt kl j R x last) : R.length ≤ j ∧ x.length ≤ j := by
  rcases h with ⟨h1, rfl, rfl, h4⟩ | ⟨h1, h2, h3⟩
  · simp
  · have a := rst_len kl j
    rw [h3] at a
    have b := (rst_mem kl j x (by rw [h3]; simp)).2.1
    simp at a; omega
end Go.Proofs.YtjahmnenfknjgaaGreatDoor
namespace Go.Proofs.YtjahmnenfknjgaaGreatDoor

/-- Strictly rising lists. -/
def Up (l : List Nat) : Prop := l.Pairwise (· < ·)
theorem up_len : ∀ (l : List Nat) (a n : Nat), Up l → (∀ x, x ∈ l → a ≤ x ∧ x < n) → l.length ≤ n - a
  | [], _, _, _, _ => by simp
  | x :: l, a, n, h, hb => by
    have h1 := hb x (by simp)
    have h2 := List.pairwise_cons.1 h
    have := up_len l (x + 1) n h2.2 (fun y hy => ⟨h2.1 y hy, (hb y (by simp [hy])).2⟩)
    simp; omega
theorem kept_up (lv : List Int) (n : Nat) : Up (kept lv n) := List.Pairwise.sublist List.filter_sublist List.pairwise_lt_range
theorem up_flat : ∀ (rs : List (List Nat)), Up rs.flatten → (∀ r, r ∈ rs → Up r) ∧ ∀ i j, i < j → j < rs.length → ∀ x y, x ∈ lat rs i → y ∈ lat rs j → x < y
  | [], _ => ⟨by simp, fun i j _ h => by simp at h⟩
  | r :: rs, h => by
    rw [Up, List.flatten_cons, List.pairwise_append] at h
    obtain ⟨h1, h2, h3⟩ := h
    obtain ⟨ih1, ih2⟩ := up_flat rs h2
    refine ⟨fun x hx => ?_, fun i j hij hj x y hx hy => ?_⟩
    · rcases List.mem_cons.1 hx with rfl | hx
      · exact h1
      · exact ih1 x hx
    · obtain ⟨j, rfl⟩ : ∃ j', j = j' + 1 := ⟨j - 1, by omega⟩
      have hj' : j < rs.length := by simpa using hj
      have hy' : y ∈ lat rs j := by simpa [lat] using hy
      cases i with
      | zero =>
        have hx' : x ∈ r := by simpa [lat] using hx
        refine h3 x hx' y (List.mem_flatten.2 ⟨lat rs j, ?_, hy'⟩)
        have : lat rs j = rs[j] := by simp [lat, hj']
        rw [this]; exact List.getElem_mem _
      | succ i =>
        exact ih2 i j (by omega) hj' x y (by simpa [lat] using hx) hy'
theorem runs_flat (kl : List Int) : (runs kl).flatten = kept kl kl.length := rst_flat kl kl.length
theorem runs_up (kl : List Int) : (∀ r, r ∈ runs kl → Up r) ∧ ∀ i j, i < j → j < (runs kl).length → ∀ x y, x ∈ lat (runs kl) i → y ∈ lat (runs kl) j → x < y :=
  up_flat _ (by rw [runs_flat]; exact kept_up _ _)
theorem lat_mem {rs : List (List Nat)} {i : Nat} (h : i < rs.length) : lat rs i ∈ rs := by
  have : lat rs i = rs[i] := by simp [lat, h]
  rw [this]; exact List.getElem_mem _
theorem mem_lat {rs : List (List Nat)} {r : List Nat} (h : r ∈ rs) : ∃ i, i < rs.length ∧ lat rs i = r := by
  obtain ⟨i, hi, e⟩ := List.getElem_of_mem h
  exact ⟨i, hi, by simp [lat, hi, e]⟩
/-- The run that holds a place. -/
def runOf (rs : List (List Nat)) (x : Nat) : Nat := ((List.range rs.length).find? fun i => decide (x ∈ lat rs i)).getD 0
theorem runOf_in {kl : List Int} {x : Nat} (hx : x < kl.length) (hk : nth kl x ≠ -1) : runOf (runs kl) x < (runs kl).length ∧ x ∈ lat (runs kl) (runOf (runs kl) x) := by
  have hm : x ∈ (runs kl).flatten := by rw [runs_flat, kept]; simp [hx, hk]
  obtain ⟨r, hr, hxr⟩ := List.mem_flatten.1 hm
  obtain ⟨i, hi, e⟩ := mem_lat hr
  unfold runOf
  cases hf : (List.range (runs kl).length).find? (fun i => decide (x ∈ lat (runs kl) i)) with
  | none =>
    have := List.find?_eq_none.1 hf i (by simpa using hi)
    simp [e, hxr] at this
  | some k =>
    have h1 := List.find?_some hf
    have h2 := List.mem_of_find?_eq_some hf
    exact ⟨by simpa using h2, by simpa using h1⟩
theorem runs_disj {kl : List Int} {i j x : Nat} (hi : i < (runs kl).length) (hj : j < (runs kl).length) (h1 : x ∈ lat (runs kl) i) (h2 : x ∈ lat (runs kl) j) : i = j := by
  rcases Nat.lt_trichotomy i j with h | h | h
  · exact absurd ((runs_up kl).2 i j h hj x x h1 h2) (Nat.lt_irrefl x)
  · exact h
  · exact absurd ((runs_up kl).2 j i h hi x x h2 h1) (Nat.lt_irrefl x)
theorem runOf_eq {kl : List Int} {i x : Nat} (hi : i < (runs kl).length) (h : x ∈ lat (runs kl) i) : runOf (runs kl) x = i := by
  have h1 := runs_mem (lat_mem hi)
  obtain ⟨h2, h3⟩ := h1.2 x h
  obtain ⟨h4, h5⟩ := runOf_in h2 h3
  exact runs_disj h4 hi h5 h

/-- The run that goes on behind a run's last place. -/
def nxt (cs : List Cl) (rs : List (List Nat)) (r : List Nat) : Option (List Nat) :=
  if (cat cs (lastOf r)).isInit = true ∧ mOf cs (lastOf r) ≠ cs.length then some (lat rs (runOf rs (mOf cs (lastOf r)))) else none
def flw (cs : List Cl) (rs : List (List Nat)) : Nat → List Nat → List Nat
  | 0, r => r
  | f + 1, r => match nxt cs rs r with
    | none => r
    | some r' => r ++ flw cs rs f r'
/-- Does a run begin a chain? -/
def begins (cs : List Cl) (r : List Nat) : Bool := !(cat cs (nat r 0) == .PDI) || nth (msI cs) (nat r 0) == -1
def chnsP (cs : List Cl) (kl : List Int) : List (List Nat) := ((runs kl).filter (begins cs)).map (flw cs (runs kl) cs.length)
theorem lastOf_mem {r : List Nat} (h : r ≠ []) : lastOf r ∈ r := nat_mem (by have := List.length_pos_iff.2 h; omega)
theorem up_last {r : List Nat} (h : Up r) (hne : r ≠ []) : ∀ x, x ∈ r → x ≤ lastOf r := by
  intro x hx
  obtain ⟨i, hi, rfl⟩ := List.getElem_of_mem hx
  have hl : r.length - 1 < r.length := by omega
  have e : lastOf r = r[r.length - 1] := by simp [lastOf, nat, hl]
  rw [e]
  by_cases h2 : i = r.length - 1
  · subst h2; exact Nat.le_refl _
  · exact Nat.le_of_lt (List.pairwise_iff_getElem.1 h i (r.length - 1) hi hl (by omega))
/-- What the next run is: a later one. -/
structure NxtOk (cs : List Cl) (kl : List Int) (r r' : List Nat) : Prop where
  mem : r' ∈ runs kl
  lt : ∀ x y, x ∈ r → y ∈ r' → x < y
  last : lastOf r < lastOf r'
theorem nxt_ok {cs : List Cl} {kl : List Int} (hl : kl.length = cs.length) (hk : ∀ q, q < cs.length → cat cs q = .PDI → nth kl q ≠ -1) {r r' : List Nat} (hr : r ∈ runs kl) (h : nxt cs (runs kl) r = some r') : NxtOk cs kl r r' := by
  have hrm := runs_mem hr
  have hlast := lastOf_mem hrm.1
  have hll := (hrm.2 _ hlast).1
  unfold nxt at h
  split at h
  · rename_i hc
    injection h with h
    have hmle := mOf_le cs (lastOf r)
    have hmlt : mOf cs (lastOf r) < cs.length := by omega
    have hgt := mOf_gt (cs := cs) (i := lastOf r) (by omega)
    obtain ⟨h1, h2⟩ := runOf_in (kl := kl) (x := mOf cs (lastOf r)) (by omega) (hk _ hmlt (mOf_pdi hmlt))
    obtain ⟨i, hi, e⟩ := mem_lat hr
    rw [h] at h2
    have hij : i < runOf (runs kl) (mOf cs (lastOf r)) := by
      rcases Nat.lt_trichotomy i (runOf (runs kl) (mOf cs (lastOf r))) with h3 | h3 | h3
      · exact h3
      · rw [← h3, e] at h
        rw [← h] at h2
        have := up_last ((runs_up kl).1 r hr) hrm.1 _ h2
        omega
      · have := (runs_up kl).2 _ _ h3 hi _ _ (by rw [h]; exact h2) (by rw [e]; exact hlast)
        omega
    have hlt : ∀ x y, x ∈ r → y ∈ r' → x < y := fun x y hx hy => (runs_up kl).2 _ _ hij h1 x y (by rw [e]; exact hx) (by rw [h]; exact hy)
    have hm' : r' ∈ runs kl := by rw [← h]; exact lat_mem h1
    exact ⟨hm', hlt, hlt _ _ hlast (lastOf_mem (runs_mem hm').1)⟩
  · cases h
theorem flw_ok {cs : List Cl} {kl : List Int} (hl : kl.length = cs.length) (hk : ∀ q, q < cs.length → cat cs q = .PDI → nth kl q ≠ -1) : ∀ (f : Nat) (r : List Nat), r ∈ runs kl → cs.length ≤ f + lastOf r →
    Up (flw cs (runs kl) f r) ∧ (∀ x, x ∈ flw cs (runs kl) f r → (∀ y, y ∈ r → y ≤ x ∨ x ∈ r) ∧ x < cs.length ∧ nth kl x ≠ -1) ∧ flw cs (runs kl) f r ≠ []
  | 0, r, hr, hf => by
    have hrm := runs_mem hr
    have := (hrm.2 _ (lastOf_mem hrm.1)).1
    omega
  | f + 1, r, hr, hf => by
    have hrm := runs_mem hr
    have hup := (runs_up kl).1 r hr
    unfold flw
    cases hn : nxt cs (runs kl) r with
    | none => exact ⟨hup, fun x hx => ⟨fun y hy => .inr hx, by have := (hrm.2 x hx).1; omega, (hrm.2 x hx).2⟩, hrm.1⟩
    | some r' =>
      have ho := nxt_ok hl hk hr hn
      obtain ⟨h1, h2, h3⟩ := flw_ok hl hk f r' ho.mem (by have := ho.last; omega)
      have hgt : ∀ x, x ∈ flw cs (runs kl) f r' → ∀ y, y ∈ r → y < x := fun x hx y hy => by
        have hne := (runs_mem ho.mem).1
        obtain ⟨z, hz⟩ := List.exists_mem_of_ne_nil _ hne
        rcases (h2 x hx).1 z hz with h4 | h4
        · exact Nat.lt_of_lt_of_le (ho.lt y z hy hz) h4
        · exact ho.lt y x hy h4
      refine ⟨List.pairwise_append.2 ⟨hup, h1, fun y hy x hx => hgt x hx y hy⟩, fun x hx => ?_, by simp [hrm.1]⟩
      rcases List.mem_append.1 hx with hx | hx
      · exact ⟨fun y hy => .inr hx, by have := (hrm.2 x hx).1; omega, (hrm.2 x hx).2⟩
      · exact ⟨fun y hy => .inl (Nat.le_of_lt (hgt x hx y hy)), (h2 x hx).2⟩
theorem flw_len {cs : List Cl} {kl : List Int} (hl : kl.length = cs.length) (hk : ∀ q, q < cs.length → cat cs q = .PDI → nth kl q ≠ -1) {f : Nat} {r : List Nat} (hr : r ∈ runs kl) (hf : cs.length ≤ f + lastOf r) : (flw cs (runs kl) f r).length ≤ cs.length := by
  obtain ⟨h1, h2, _⟩ := flw_ok hl hk f r hr hf
  have := up_len _ 0 cs.length h1 (fun x hx => ⟨Nat.zero_le _, (h2 x hx).2.1⟩)
  omega
end Go.Proofs.YtjahmnenfknjgaaGreatDoor
namespace Go.Proofs.YtjahmnenfknjgaaGreatDoor

/-- Removed characters get their own class back. -/
def ownT (cs T : List Cl) (q : Nat) : Cl := if (cat cs q).isRem then cat cs q else cat T q
def ownTs (cs T : List Cl) : List Cl := lst T.length (ownT cs T)
/-- Removed characters get the level ahead of them. -/
def lent (cs : List Cl) (V : List Int) (base : Int) : Nat → Int
  | 0 => if (cat cs 0).isRem then base else nth V 0
  | i + 1 => if (cat cs (i + 1)).isRem then lent cs V base i else nth V (i + 1)
def lents (cs : List Cl) (V : List Int) (base : Int) : List Int := (List.range cs.length).map (lent cs V base)
theorem lents_length (cs : List Cl) (V : List Int) (base : Int) : (lents cs V base).length = cs.length := by simp [lents]
theorem nth_lents {cs : List Cl} {V : List Int} {base : Int} {q : Nat} (h : q < cs.length) : nth (lents cs V base) q = lent cs V base q := by simp [nth, lents, h]
/-- On the way: the first k places are lent, the others are -1 where they are removed. -/
def lentK (cs : List Cl) (V : List Int) (base : Int) (k : Nat) : List Int := (List.range cs.length).map fun q => if q < k then lent cs V base q else nth (klv cs V) q
theorem lentK_length (cs : List Cl) (V : List Int) (base : Int) (k : Nat) : (lentK cs V base k).length = cs.length := by simp [lentK]
theorem nth_lentK {cs : List Cl} {V : List Int} {base : Int} {k q : Nat} (h : q < cs.length) : nth (lentK cs V base k) q = if q < k then lent cs V base q else nth (klv cs V) q := by simp [nth, lentK, h]
theorem lentK_zero (cs : List Cl) (V : List Int) (base : Int) : lentK cs V base 0 = klv cs V := by
  refine nths_ext (by rw [lentK_length, klv_length]) fun p hp => ?_
  rw [lentK_length] at hp
  rw [nth_lentK hp, if_neg (by omega)]
theorem lentK_end (cs : List Cl) (V : List Int) (base : Int) : lentK cs V base cs.length = lents cs V base := by
  refine nths_ext (by rw [lentK_length, lents_length]) fun p hp => ?_
  rw [lentK_length] at hp
  rw [nth_lentK hp, if_pos hp, nth_lents hp]
theorem lentK_set {cs : List Cl} {V : List Int} {base : Int} {k : Nat} {x : Int} (h : k < cs.length) (hx : lent cs V base k = x) : (lentK cs V base k).set k x = lentK cs V base (k + 1) := by
  refine nths_ext (by simp [lentK]) fun p hp => ?_
  rw [List.length_set, lentK_length] at hp
  rw [nth_set (by rw [lentK_length]; exact h), nth_lentK hp, nth_lentK hp]
  by_cases e : p = k
  · subst e; rw [if_pos rfl, if_pos (by omega), hx]
  · rw [if_neg e]
    by_cases e2 : p < k
    · rw [if_pos e2, if_pos (by omega)]
    · rw [if_neg e2, if_neg (by omega)]
theorem lentK_same {cs : List Cl} {V : List Int} {base : Int} {k : Nat} (h : k < cs.length) (hx : lent cs V base k = nth (klv cs V) k) : lentK cs V base k = lentK cs V base (k + 1) := by
  refine nths_ext (by simp [lentK]) fun p hp => ?_
  rw [lentK_length] at hp
  rw [nth_lentK hp, nth_lentK hp]
  by_cases e : p = k
  · subst e; rw [if_neg (by omega), if_pos (by omega), hx]
  · by_cases e2 : p < k
    · rw [if_pos e2, if_pos (by omega)]
    · rw [if_neg e2, if_neg (by omega)]
/-- On the way to the kept levels: the first k places are turned. -/
def klvK (cs : List Cl) (V : List Int) (k : Nat) : List Int := (List.range cs.length).map fun q => if q < k ∧ (cat cs q).isRem then -1 else nth V q
theorem klvK_length (cs : List Cl) (V : List Int) (k : Nat) : (klvK cs V k).length = cs.length := by simp [klvK]
theorem nth_klvK {cs : List Cl} {V : List Int} {k q : Nat} (h : q < cs.length) : nth (klvK cs V k) q = if q < k ∧ (cat cs q).isRem then -1 else nth V q := by simp [nth, klvK, h]
theorem klvK_zero {cs : List Cl} {V : List Int} (h : V.length = cs.length) : klvK cs V 0 = V := by
  refine nths_ext (by rw [klvK_length, h]) fun p hp => ?_
  rw [klvK_length] at hp
  rw [nth_klvK hp, if_neg (by omega)]
theorem klvK_end (cs : List Cl) (V : List Int) : klvK cs V cs.length = klv cs V := by
  refine nths_ext (by rw [klvK_length, klv_length]) fun p hp => ?_
  rw [klvK_length] at hp
  rw [nth_klvK hp, nth_klv hp]
  simp [hp]
theorem klvK_set {cs : List Cl} {V : List Int} {k : Nat} (h : k < cs.length) (hr : (cat cs k).isRem = true) : (klvK cs V k).set k (-1) = klvK cs V (k + 1) := by
  refine nths_ext (by simp [klvK]) fun p hp => ?_
  rw [List.length_set, klvK_length] at hp
  rw [nth_set (by rw [klvK_length]; exact h), nth_klvK hp, nth_klvK hp]
  by_cases e : p = k
  · subst e; rw [if_pos rfl, if_pos ⟨by omega, hr⟩]
  · rw [if_neg e]
    by_cases e2 : p < k ∧ (cat cs p).isRem = true
    · rw [if_pos e2, if_pos ⟨by omega, e2.2⟩]
    · rw [if_neg e2, if_neg (fun h => e2 ⟨by omega, h.2⟩)]
theorem klvK_same {cs : List Cl} {V : List Int} {k : Nat} (h : k < cs.length) (hr : (cat cs k).isRem = false) : klvK cs V k = klvK cs V (k + 1) := by
  refine nths_ext (by simp [klvK]) fun p hp => ?_
  rw [klvK_length] at hp
  rw [nth_klvK hp, nth_klvK hp]
  by_cases e : p = k
  · subst e; rw [if_neg (fun h => by omega), if_neg (fun h => by rw [hr] at h; exact absurd h.2 (by decide))]
  · by_cases e2 : p < k ∧ (cat cs p).isRem = true
    · rw [if_pos e2, if_pos ⟨by omega, e2.2⟩]
    · rw [if_neg e2, if_neg (fun h => e2 ⟨by omega, h.2⟩)]
end Go.Proofs.YtjahmnenfknjgaaGreatDoor
