/- The package's rules over its chains, one after the other; what the levels and types are between them. Plain Lean. -/
import Derived.Test.YtjahmnenfknjgaaGreatDoorG11
import Derived.Test.YtjahmnenfknjgaaGreatDoorG15
import Derived.Test.YtjahmnenfknjgaaGreatDoorG21
import Derived.Test.YtjahmnenfknjgaaGreatDoorG6
set_option linter.unusedVariables false
set_option linter.unusedSimpArgs false
namespace Go.Proofs.YtjahmnenfknjgaaGreatDoor

noncomputable def pRes (cs T : List Cl) (br : List Int) (c : Chn) : List Cl := neuS (brS (weakP (cIni T c.pl) c.so) (cIni cs c.pl) (pick br c.pl) c.lev c.so) c.lev c.so c.eo
noncomputable def pstp (cs T0 : List Cl) (br : List Int) (s : List Cl × List Int) (c : Chn) : List Cl × List Int :=
  (scC s.1 c.pl (pRes cs T0 br c) c.pl.length, scI s.2 c.pl (impS (pRes cs T0 br c) c.lev) c.pl.length)
noncomputable def prun (cs T0 : List Cl) (V0 br : List Int) (base : Int) (pls : List (List Nat)) : List Cl × List Int := (pls.map (chnP cs V0 T0 base)).foldl (pstp cs T0 br) (T0, V0)
noncomputable def pst0 (cs T0 : List Cl) (V0 br : List Int) (base : Int) (pls : List (List Nat)) (j : Nat) : List Cl × List Int := prun cs T0 V0 br base (pls.take j)
theorem pst0_zero (cs T0 : List Cl) (V0 br : List Int) (base : Int) (pls : List (List Nat)) : pst0 cs T0 V0 br base pls 0 = (T0, V0) := rfl
theorem pst0_succ {cs T0 : List Cl} {V0 br : List Int} {base : Int} {pls : List (List Nat)} {j : Nat} (h : j < pls.length) : pst0 cs T0 V0 br base pls (j + 1) = pstp cs T0 br (pst0 cs T0 V0 br base pls j) (chnP cs V0 T0 base pls[j]) := by
  unfold pst0 prun
  rw [List.take_succ_eq_append_getElem h, List.map_append, List.foldl_append]; rfl
theorem pst0_end (cs T0 : List Cl) (V0 br : List Int) (base : Int) (pls : List (List Nat)) : pst0 cs T0 V0 br base pls pls.length = prun cs T0 V0 br base pls := by unfold pst0; rw [List.take_length]
theorem pst0_length (cs T0 : List Cl) (V0 br : List Int) (base : Int) (pls : List (List Nat)) : ∀ j, j ≤ pls.length → (pst0 cs T0 V0 br base pls j).1.length = T0.length ∧ (pst0 cs T0 V0 br base pls j).2.length = V0.length
  | 0, _ => ⟨rfl, rfl⟩
  | j + 1, h => by
    have ih := pst0_length cs T0 V0 br base pls j (by omega)
    rw [pst0_succ (by omega)]
    unfold pstp
    exact ⟨by rw [scC_length]; exact ih.1, by rw [scI_length]; exact ih.2⟩
theorem up_count {p : Nat → Bool} : ∀ (n : Nat) (l : List Nat), Up l → (∀ x, x ∈ l → x < n) → l.countP p ≤ (List.range n).countP p
  | 0, l, _, h => by
    cases l with
    | nil => simp
    | cons a l => exact absurd (h a (by simp)) (by omega)
  | n + 1, l, hu, h => by
    rw [List.range_succ, List.countP_append]
    rcases List.eq_nil_or_concat l with rfl | ⟨l', a, rfl⟩
    · simp
    · rw [List.concat_eq_append] at hu h ⊢
      have hu' : Up l' := (List.pairwise_append.1 hu).1
      have hla : ∀ x, x ∈ l' → x < a := fun x hx => (List.pairwise_append.1 hu).2.2 x hx a (by simp)
      by_cases e : a = n
      · subst e
        have ih := up_count (p := p) a l' hu' hla
        rw [List.countP_append]; omega
      · have han : a < n := by have := h a (by simp); omega
        have ih := up_count (p := p) n (l' ++ [a]) hu (fun x hx => by
          rcases List.mem_append.1 hx with h1 | h1
          · have := hla x h1; omega
          · simp at h1; omega)
        omega
theorem opc_pick_le {br : List Int} {pl : List Nat} {n N : Nat} (hu : Up pl) (h : ∀ x, x ∈ pl → x < N) (hn : pl.length = n) (ho : opc br N ≤ 63) : opc (pick br pl) n ≤ 63 := by
  subst hn
  rw [opc_pick pl.length (Nat.le_refl _), List.take_length]
  exact Nat.le_trans (up_count N pl hu h) ho
theorem ilv_ge {level : Int} (c : Cl) : level ≤ ilv level c := by
  unfold ilv; split <;> first | omega | (split <;> omega)
theorem nth_impS {l : List Cl} {level : Int} {k : Nat} (h : k < l.length) : nth (impS l level) k = ilv level (cat l k) := by
  simp [nth, impS, cat, h]
theorem scI_keep {V r : List Int} {pl : List Nat} (P : Int → Prop) : ∀ k, (∀ t, t < k → P (nth r t)) → ∀ q, (P (nth V q)) → P (nth (scI V pl r k) q)
  | 0, _, q, h => h
  | k + 1, hr, q, h => by
    have ih := scI_keep (V := V) (pl := pl) P k (fun t ht => hr t (by omega)) q h
    unfold scI
    by_cases e : nat pl k = q
    · subst e
      by_cases hl : nat pl k < (scI V pl r k).length
      · rw [nth_set_self hl]; exact hr k (by omega)
      · rw [List.set_eq_of_length_le (by omega)]; exact ih
    · rw [nth_set_ne e]; exact ih
theorem plv_range {cs : List Cl} {base : Int} (hb : base = 0 ∨ base = 1) (i : Nat) : 0 ≤ plv cs base i ∧ plv cs base i ≤ 125 := by
  have T : ∀ s : XS, XOk base s → 0 ≤ s.top.lv ∧ s.top.lv ≤ 125 := fun s hs => by
    obtain ⟨e, r, _, h2, h3, h4⟩ := hs.top
    rw [h2]; omega
  have h0 := T _ (xs_ok cs hb i)
  have h1 := T _ (xs_ok cs hb i).end_
  have E : ∀ odd : Int, odd = 0 ∨ odd = 1 → 0 ≤ embLv (xs cs base i) odd base ∧ embLv (xs cs base i) odd base ≤ 125 := fun odd ho => by
    unfold embLv
    have := nextLv_gt (xs cs base i).top.lv odd ho
    split <;> omega
  unfold plv
  split <;> first | exact E _ (.inl rfl) | exact E _ (.inr rfl) | exact h1 | omega | exact h0
theorem pty_cases {cs : List Cl} {base : Int} (hb : base = 0 ∨ base = 1) (i : Nat) : pty cs base i = cat cs i ∨ pty cs base i = .L ∨ pty cs base i = .R := by
  obtain ⟨e, r, h1, h2, _⟩ := (xs_ok cs hb i).top
  have h3 := (xs_ok cs hb i).ov e (by rw [h1]; simp)
  have D : ∀ c, (xs cs base i).top.ov.getD c = c ∨ (xs cs base i).top.ov.getD c = .L ∨ (xs cs base i).top.ov.getD c = .R := fun c => by
    rw [h2]; rcases h3 with h | h | h <;> rw [h] <;> simp
  unfold pty
  split <;> rename_i e <;> first | (left; rw [e]) | exact D _
theorem pty_p0 {cs : List Cl} {base : Int} (hb : base = 0 ∨ base = 1) {i : Nat} (h : (cat cs i).isRem = false) : (pty cs base i).p0 = true := by
  rcases pty_cases (cs := cs) hb i with e | e | e <;> rw [e]
  · simp [Cl.p0, h]
  · rfl
  · rfl
/-- The chains of a paragraph whose levels are the package's. -/
theorem chn_mem {cs : List Cl} {V : List Int} (hV : ∀ q, q < cs.length → (cat cs q).isRem = false → 0 ≤ nth V q) {pl : List Nat} (h : pl ∈ chnsP cs (klv cs V)) :
    Up pl ∧ pl ≠ [] ∧ (∀ x, x ∈ pl → x < cs.length ∧ (cat cs x).isRem = false) ∧ pl.length ≤ cs.length := by
  unfold chnsP at h
  obtain ⟨r, hr, rfl⟩ := List.mem_map.1 h
  have hrm := (List.mem_filter.1 hr).1
  have hk : ∀ q, q < cs.length → cat cs q = .PDI → nth (klv cs V) q ≠ -1 := fun q hq hp => by
    rw [nth_klv hq, hp]; simp [Cl.isRem]
    have := hV q hq (by rw [hp]; rfl)
    omega
  obtain ⟨h1, h2, h3⟩ := flw_ok (klv_length cs V) hk cs.length r hrm (by omega)
  refine ⟨h1, h3, fun x hx => ⟨(h2 x hx).2.1, ?_⟩, flw_len (klv_length cs V) hk hrm (by omega)⟩
  have h4 := (h2 x hx).2.2
  rw [nth_klv (h2 x hx).2.1] at h4
  cases e : (cat cs x).isRem with
  | false => rfl
  | true => rw [e] at h4; simp at h4
end Go.Proofs.YtjahmnenfknjgaaGreatDoor
namespace Go.Proofs.YtjahmnenfknjgaaGreatDoor

theorem scan_ge {cs : List Cl} {d j : Nat} (hj : j ≤ cs.length) : j ≤ scan cs d j := by
  unfold scan
  cases e : clz (d - 1) (cs.drop j) j with
  | none => simpa using hj
  | some m => simpa using (clz_ge _ _ _ _ e).1
theorem scan_step {cs : List Cl} {i q d : Nat} (hq : q < mOf cs i) (hql : q < cs.length) (h : scan cs (d + 1) q = mOf cs i) :
    ((cat cs q).isInit = true ∧ scan cs (d + 2) (q + 1) = mOf cs i) ∨ (cat cs q = .PDI ∧ ∃ d', d = d' + 1 ∧ scan cs (d' + 1) (q + 1) = mOf cs i) ∨ ((cat cs q).isInit = false ∧ cat cs q ≠ .PDI ∧ scan cs (d + 1) (q + 1) = mOf cs i) := by
  by_cases h1 : (cat cs q).isInit = true
  · exact .inl ⟨h1, by rw [← h, scan_init hql (by omega) h1]⟩
  by_cases h2 : cat cs q = .PDI
  · refine .inr (.inl ⟨h2, ?_⟩)
    cases d with
    | zero => rw [scan_found hql h2] at h; omega
    | succ d => exact ⟨d, rfl, by rw [← h, scan_pdi hql (by omega) h2]; rfl⟩
  · exact .inr (.inr ⟨by simpa using h1, h2, by rw [← h, scan_other hql (by simpa using h1) h2]⟩)
theorem isos_append (a b : List Ent) : isos (a ++ b) = isos a + isos b := by simp [isos]
theorem isos_cons (e : Ent) (b : List Ent) : isos (e :: b) = (if e.iso then 1 else 0) + isos b := by
  cases h : e.iso <;> simp [isos, h]; omega
theorem popIso_in {e : Ent} {rest : List Ent} : ∀ (pre : List Ent), 0 < isos pre → ∃ pre', popIso (pre ++ e :: rest) = pre' ++ e :: rest ∧ isos pre' + 1 = isos pre ∧ ∀ y, y ∈ pre' → y ∈ pre
  | [], h => by simp [isos] at h
  | a :: pre, h => by
    rw [List.cons_append, popIso]
    rw [isos_cons] at h
    cases ha : a.iso with
    | true => exact ⟨pre, by simp, by rw [isos_cons, ha]; simp; omega, fun y hy => List.mem_cons_of_mem _ hy⟩
    | false =>
      rw [ha] at h
      obtain ⟨p', h1, h2, h3⟩ := popIso_in pre (by simpa using h)
      exact ⟨p', by simpa using h1, by rw [isos_cons, ha]; simpa using h2, fun y hy => List.mem_cons_of_mem _ (h3 y hy)⟩
theorem popIso_out {e : Ent} {rest : List Ent} (he : e.iso = true) : ∀ (pre : List Ent), isos pre = 0 → popIso (pre ++ e :: rest) = rest
  | [], _ => by simp [popIso, he]
  | a :: pre, h => by
    rw [isos_cons] at h
    rw [List.cons_append, popIso]
    cases ha : a.iso with
    | true => rw [ha] at h; simp at h
    | false => rw [ha] at h; simpa using popIso_out he pre (by simpa using h)

/-- The state within a valid isolate. -/
def InV (s : XS) (e : Ent) (d : Nat) (x : XS) : Prop := ∃ pre, x.st = pre ++ e :: s.st ∧ isos pre + x.oi = d ∧ ∀ y, y ∈ pre → s.top.lv < y.lv
theorem InV.top {s : XS} {e : Ent} {d : Nat} {x : XS} (h : InV s e d x) (he : s.top.lv < e.lv) : s.top.lv < x.top.lv := by
  obtain ⟨pre, h1, _, h3⟩ := h
  cases pre with
  | nil => simpa [XS.top, h1] using he
  | cons a pre => simpa [XS.top, h1] using h3 a (by simp)
theorem InV.push {s : XS} {e : Ent} {d : Nat} {x : XS} (h : InV s e d x) (he : s.top.lv < e.lv) {odd : Int} (ho : odd = 0 ∨ odd = 1) {ov : Option Cl} {iso : Bool} {oe vi : Nat} :
    InV s e (d + if iso then 1 else 0) ⟨⟨nextLv x.top.lv odd, ov, iso⟩ :: x.st, x.oi, oe, vi⟩ := by
  have ht := h.top he
  obtain ⟨pre, h1, h2, h3⟩ := h
  refine ⟨⟨nextLv x.top.lv odd, ov, iso⟩ :: pre, by simp [h1], ?_, fun y hy => ?_⟩
  · rw [isos_cons]; cases iso <;> simp <;> omega
  · rcases List.mem_cons.1 hy with rfl | hy
    · exact Int.lt_trans ht (nextLv_gt _ _ ho).1
    · exact h3 y hy
theorem InV.embed {s : XS} {e : Ent} {d : Nat} {x : XS} (h : InV s e d x) (he : s.top.lv < e.lv) {odd : Int} (ho : odd = 0 ∨ odd = 1) (ov : Option Cl) : InV s e d (x.embed odd ov) := by
  unfold XS.embed
  split
  · exact h.push he ho (iso := false)
  split
  · exact h
  · exact h
theorem InV.begin_ {s : XS} {e : Ent} {d : Nat} {x : XS} (h : InV s e d x) (he : s.top.lv < e.lv) {odd : Int} (ho : odd = 0 ∨ odd = 1) : InV s e (d + 1) (x.begin_ odd) := by
  unfold XS.begin_
  split
  · exact h.push he ho (iso := true)
  · obtain ⟨pre, h1, h2, h3⟩ := h
    exact ⟨pre, h1, by simp only; omega, h3⟩
theorem InV.pop {s : XS} {e : Ent} {d : Nat} {x : XS} (h : InV s e d x) (hi : e.iso = true) : InV s e d x.pop := by
  unfold XS.pop
  split
  · exact h
  split
  · exact h
  split
  · rename_i hc
    obtain ⟨pre, h1, h2, h3⟩ := h
    cases pre with
    | nil => have := hc.1; rw [XS.top, h1] at this; simp [hi] at this
    | cons a pre =>
      have ha : a.iso = false := by have := hc.1; rw [XS.top, h1] at this; simpa using this
      refine ⟨pre, by simp [h1], ?_, fun y hy => h3 y (List.mem_cons_of_mem _ hy)⟩
      rw [isos_cons, ha] at h2; simpa using h2
  · exact h
theorem InV.end_ {s : XS} {e : Ent} {d : Nat} {x : XS} (h : InV s e (d + 1) x) (hi : e.iso = true) (hv : x.vi = isos x.st) : InV s e d x.end_ := by
  obtain ⟨pre, h1, h2, h3⟩ := h
  unfold XS.end_
  split
  · exact ⟨pre, h1, by simp only; omega, h3⟩
  split
  · obtain ⟨p', k1, k2, k3⟩ := popIso_in (e := e) (rest := s.st) pre (by omega)
    exact ⟨p', by simp only; rw [h1, k1], by simp only; omega, fun y hy => h3 y (k3 y hy)⟩
  · rename_i hc
    rw [hv, h1, isos_append, isos_cons, hi] at hc
    simp at hc
theorem InV.out {s : XS} {e : Ent} {x : XS} (h : InV s e 0 x) (hi : e.iso = true) (hv : x.vi = isos x.st) : x.end_.st = s.st := by
  obtain ⟨pre, h1, h2, h3⟩ := h
  unfold XS.end_
  rw [if_neg (by omega), if_pos (by rw [hv, h1, isos_append, isos_cons, hi]; simp; omega)]
  simp only; rw [h1]; exact popIso_out hi pre (by omega)
/-- The state within an isolate that is one too deep. -/
def InO (s : XS) (d : Nat) (x : XS) : Prop := x.st = s.st ∧ x.oi = s.oi + 1 + d
theorem InO.top {s : XS} {d : Nat} {x : XS} (h : InO s d x) : x.top = s.top := by rw [XS.top, h.1]; rfl
theorem InO.embed {s : XS} {d : Nat} {x : XS} (h : InO s d x) (odd : Int) (ov : Option Cl) : InO s d (x.embed odd ov) := by
  have := h.2
  unfold XS.embed
  rw [if_neg (by omega), if_neg (by omega)]; exact h
theorem InO.begin_ {s : XS} {d : Nat} {x : XS} (h : InO s d x) (odd : Int) : InO s (d + 1) (x.begin_ odd) := by
  have := h.2
  unfold XS.begin_
  rw [if_neg (by omega)]; exact ⟨h.1, by simp only; omega⟩
theorem InO.pop {s : XS} {d : Nat} {x : XS} (h : InO s d x) : InO s d x.pop := by
  have := h.2
  unfold XS.pop
  rw [if_pos (by omega)]; exact h
theorem InO.end_ {s : XS} {d : Nat} {x : XS} (h : InO s (d + 1) x) : InO s d x.end_ := by
  have := h.2
  unfold XS.end_
  rw [if_pos (by omega)]; exact ⟨h.1, by simp only; omega⟩
theorem InO.out {s : XS} {x : XS} (h : InO s 0 x) : x.end_.st = s.st := by
  have := h.2
  unfold XS.end_
  rw [if_pos (by omega)]; exact h.1

theorem xstep_cases {P : Nat → XS → Prop} {cs : List Cl} {q d : Nat} {x : XS}
    (hemb : ∀ odd, odd = 0 ∨ odd = 1 → ∀ ov, P d (x.embed odd ov)) (hpop : P d x.pop) (hbeg : (cat cs q).isInit = true → ∀ odd, odd = 0 ∨ odd = 1 → P (d + 1) (x.begin_ odd)) (hend : cat cs q = .PDI → ∀ d', d = d' + 1 → P d' x.end_) (hid : P d x) :
    ((cat cs q).isInit = true → P (d + 1) (xstep cs q x)) ∧ (cat cs q = .PDI → ∀ d', d = d' + 1 → P d' (xstep cs q x)) ∧ ((cat cs q).isInit = false → cat cs q ≠ .PDI → P d (xstep cs q x)) := by
  unfold xstep
  refine ⟨fun h => ?_, fun h => ?_, fun h h' => ?_⟩
  · have hb := hbeg h
    split <;> rename_i e <;> first
      | exact hb _ (.inr rfl)
      | exact hb _ (.inl rfl)
      | exact hb _ (fsLev_range _ _ _)
      | (rw [e] at h; exact absurd h (by decide))
      | (exfalso; revert h; cases hc : cat cs q <;> simp [hc, Cl.isInit] at * )
  · rw [h]; exact hend h
  · split <;> rename_i e <;> first
      | exact hemb _ (.inr rfl) _
      | exact hemb _ (.inl rfl) _
      | exact hpop
      | exact absurd e h'
      | (rw [e] at h; exact absurd h (by decide))
      | exact hid
/-- Between an initiator and its end. -/
theorem iso_between {cs : List Cl} {base : Int} (hb : base = 0 ∨ base = 1) (hB : ∀ i, i < cs.length → cat cs i = .B → i + 1 = cs.length) {i : Nat} (hi : (cat cs i).isInit = true) (hp : mOf cs i < cs.length) (hil : i < cs.length) :
    xlv cs base (mOf cs i) = xlv cs base i ∧ ((∀ q, i < q → q < mOf cs i → (cat cs q).isRem = false → xlv cs base i < xlv cs base q) ∨ (∀ q, i < q → q < mOf cs i → (cat cs q).isRem = false → xlv cs base q = xlv cs base i)) := by
  have hgt := mOf_gt hil
  have hpd := mOf_pdi hp
  have hli : xlv cs base i = (xs cs base i).top.lv := by
    unfold xlv xtop
    cases hc : cat cs i <;> simp [hc, Cl.isInit] at hi <;> simp [Cl.isRem]
  have hlp : xlv cs base (mOf cs i) = (xs cs base (mOf cs i)).end_.top.lv := by
    unfold xlv xtop; simp [hpd, Cl.isRem]
  have hlq : ∀ q, q < mOf cs i → (cat cs q).isRem = false → xlv cs base q = if cat cs q = .PDI then (xs cs base q).end_.top.lv else (xs cs base q).top.lv := fun q hq hr => by
    have hnb : cat cs q ≠ .B := fun h => by have := hB q (by omega) h; omega
    unfold xlv xtop
    rw [if_neg (by simp [hr]), if_neg hnb]; split <;> rfl
  by_cases hv : nextLv (xs cs base i).top.lv (initOdd cs i) ≤ 125 ∧ (xs cs base i).oi = 0 ∧ (xs cs base i).oe = 0
  · -- valid
    have hx1 : xs cs base (i + 1) = { xs cs base i with st := ⟨nextLv (xs cs base i).top.lv (initOdd cs i), none, true⟩ :: (xs cs base i).st, vi := (xs cs base i).vi + 1 } := by
      rw [xs_init hi, XS.begin_, if_pos hv]
    have he : (xs cs base i).top.lv < (⟨nextLv (xs cs base i).top.lv (initOdd cs i), none, true⟩ : Ent).lv := (nextLv_gt _ _ (initOdd_range cs i)).1
    have key : ∀ t, i + 1 + t ≤ mOf cs i → ∃ d, scan cs (d + 1) (i + 1 + t) = mOf cs i ∧ InV (xs cs base i) ⟨nextLv (xs cs base i).top.lv (initOdd cs i), none, true⟩ d (xs cs base (i + 1 + t)) := by
      intro t
      induction t with
      | zero => exact fun _ => ⟨0, scan_start cs i, [], by rw [Nat.add_zero, hx1]; rfl, by rw [Nat.add_zero, hx1]; simp [isos, hv.2.1], fun y hy => by simp at hy⟩
      | succ t ih =>
        intro ht
        obtain ⟨d, h1, h2⟩ := ih (by omega)
        have hc := xstep_cases (P := InV (xs cs base i) ⟨nextLv (xs cs base i).top.lv (initOdd cs i), none, true⟩) (cs := cs) (q := i + 1 + t) (d := d) (x := xs cs base (i + 1 + t))
          (fun odd ho ov => h2.embed he ho ov) (h2.pop rfl) (fun _ odd ho => h2.begin_ he ho) (fun _ d' e => (e ▸ h2).end_ rfl (xs_ok cs hb _).vi) h2
        rcases scan_step (by omega) (by omega) h1 with ⟨k1, k2⟩ | ⟨k1, d', k3, k2⟩ | ⟨k1, k3, k2⟩
        · exact ⟨d + 1, k2, hc.1 k1⟩
        · exact ⟨d', k2, hc.2.1 k1 d' k3⟩
        · exact ⟨d, k2, hc.2.2 k1 k3⟩
    refine ⟨?_, .inl fun q hq1 hq2 hr => ?_⟩
    · obtain ⟨d, h1, h2⟩ := key (mOf cs i - (i + 1)) (by omega)
      rw [show i + 1 + (mOf cs i - (i + 1)) = mOf cs i by omega] at h1 h2
      have hd : d = 0 := by
        cases d with
        | zero => rfl
        | succ d =>
          rw [scan_pdi hp (by omega) hpd] at h1
          have := scan_ge (cs := cs) (d := d + 1 + 1 - 1) (j := mOf cs i + 1) (by omega)
          omega
      subst hd
      rw [hlp, hli, XS.top, h2.out rfl (xs_ok cs hb _).vi]; rfl
    · obtain ⟨d, h1, h2⟩ := key (q - (i + 1)) (by omega)
      rw [show i + 1 + (q - (i + 1)) = q by omega] at h1 h2
      rw [hli, hlq q hq2 hr]
      split
      · rename_i hpq
        rcases scan_step hq2 (by omega) h1 with ⟨k1, _⟩ | ⟨_, d', k3, _⟩ | ⟨_, k3, _⟩
        · rw [hpq] at k1; exact absurd k1 (by decide)
        · exact ((k3 ▸ h2).end_ rfl (xs_ok cs hb _).vi).top he
        · exact absurd hpq k3
      · exact h2.top he
  · -- one too deep
    have hx1 : xs cs base (i + 1) = { xs cs base i with oi := (xs cs base i).oi + 1 } := by
      rw [xs_init hi, XS.begin_, if_neg hv]
    have key : ∀ t, i + 1 + t ≤ mOf cs i → ∃ d, scan cs (d + 1) (i + 1 + t) = mOf cs i ∧ InO (xs cs base i) d (xs cs base (i + 1 + t)) := by
      intro t
      induction t with
      | zero => exact fun _ => ⟨0, scan_start cs i, by rw [Nat.add_zero, hx1], by rw [Nat.add_zero, hx1]⟩
      | succ t ih =>
        intro ht
        obtain ⟨d, h1, h2⟩ := ih (by omega)
        have hc := xstep_cases (P := InO (xs cs base i)) (cs := cs) (q := i + 1 + t) (d := d) (x := xs cs base (i + 1 + t))
          (fun odd ho ov => h2.embed odd ov) h2.pop (fun _ odd ho => h2.begin_ odd) (fun _ d' e => (e ▸ h2).end_) h2
        rcases scan_step (by omega) (by omega) h1 with ⟨k1, k2⟩ | ⟨k1, d', k3, k2⟩ | ⟨k1, k3, k2⟩
        · exact ⟨d + 1, k2, hc.1 k1⟩
        · exact ⟨d', k2, hc.2.1 k1 d' k3⟩
        · exact ⟨d, k2, hc.2.2 k1 k3⟩
    refine ⟨?_, .inr fun q hq1 hq2 hr => ?_⟩
    · obtain ⟨d, h1, h2⟩ := key (mOf cs i - (i + 1)) (by omega)
      rw [show i + 1 + (mOf cs i - (i + 1)) = mOf cs i by omega] at h1 h2
      have hd : d = 0 := by
        cases d with
        | zero => rfl
        | succ d =>
          rw [scan_pdi hp (by omega) hpd] at h1
          have := scan_ge (cs := cs) (d := d + 1 + 1 - 1) (j := mOf cs i + 1) (by omega)
          omega
      subst hd
      rw [hlp, hli, XS.top, h2.out]; rfl
    · obtain ⟨d, h1, h2⟩ := key (q - (i + 1)) (by omega)
      rw [show i + 1 + (q - (i + 1)) = q by omega] at h1 h2
      rw [hli, hlq q hq2 hr]
      split
      · rename_i hpq
        rcases scan_step hq2 (by omega) h1 with ⟨k1, _⟩ | ⟨_, d', k3, _⟩ | ⟨_, k3, _⟩
        · rw [hpq] at k1; exact absurd k1 (by decide)
        · rw [(k3 ▸ h2 : InO _ (d' + 1) _).end_.top]
        · exact absurd hpq k3
      · rw [h2.top]
/-- No two initiators have one end. -/
theorem mOf_inj {cs : List Cl} {i j : Nat} (hi : (cat cs i).isInit = true) (hj : (cat cs j).isInit = true) (hil : i < cs.length) (hjl : j < cs.length) (h : mOf cs i = mOf cs j) (hp : mOf cs i < cs.length) : i = j := by
  have aux : ∀ {i j : Nat}, (cat cs j).isInit = true → i < cs.length → mOf cs i = mOf cs j → mOf cs i < cs.length → j < cs.length → i < j → False := by
    intro i j hj hil h hp hjl hlt
    have hgt := mOf_gt hjl
    obtain ⟨d, hd, e⟩ := scan_within hil (j - (i + 1)) (by omega)
    rw [show i + 1 + (j - (i + 1)) = j by omega, scan_init hjl hd hj] at e
    obtain ⟨d, rfl⟩ : ∃ d', d = d' + 1 := ⟨d - 1, by omega⟩
    have e1 : scan cs 1 (j + 1) = mOf cs j := scan_start cs j
    have e2 : scan cs (1 + 1) (j + 1) ≤ scan cs (d + 1 + 1) (j + 1) := by
      clear e
      induction d with
      | zero => exact Nat.le_refl _
      | succ d ih => exact Nat.le_trans (ih (by omega)) (scan_mono cs (d + 1 + 1) (j + 1) (by omega) (by omega))
    have e3 : scan cs 1 (j + 1) < scan cs (1 + 1) (j + 1) ∨ scan cs (1 + 1) (j + 1) = cs.length := by
      cases e4 : clz (0 + 1) (cs.drop (j + 1)) (j + 1) with
      | none => right; unfold scan; simp at e4; simp [e4]
      | some m =>
        obtain ⟨m', h', hlt⟩ := clz_mono _ _ _ _ e4
        left
        have h1 : scan cs (1 + 1) (j + 1) = m := by unfold scan; simp at e4; simp [e4]
        have h2 : scan cs 1 (j + 1) = m' := by unfold scan; simp [h']
        omega
    omega
  rcases Nat.lt_trichotomy i j with h1 | h1 | h1
  · exact (aux hj hil h hp hjl h1).elim
  · exact h1
  · exact (aux hi hjl h.symm (by omega) hil h1).elim
theorem msK_yes {cs : List Cl} {p : Nat} : ∀ k, k ≤ cs.length → nth (msK cs k) p ≠ -1 → p < cs.length → ∃ i, i < k ∧ (cat cs i).isInit = true ∧ mOf cs i = p
  | 0, _, h, hp => by rw [msK, nth_replicate hp] at h; exact absurd rfl h
  | k + 1, hk, h, hp => by
    rw [msK] at h
    split at h
    · rename_i hc
      by_cases hm : mOf cs k = p
      · exact ⟨k, by omega, hc.1, hm⟩
      · rw [nth_set_ne hm] at h
        obtain ⟨i, h1, h2⟩ := msK_yes k (by omega) h hp
        exact ⟨i, by omega, h2⟩
    · obtain ⟨i, h1, h2⟩ := msK_yes k (by omega) h hp
      exact ⟨i, by omega, h2⟩
theorem msK_of {cs : List Cl} {i : Nat} (hi : (cat cs i).isInit = true) (hp : mOf cs i < cs.length) : ∀ k, i < k → nth (msK cs k) (mOf cs i) ≠ -1
  | k + 1, hk => by
    rw [msK]
    split
    · by_cases hm : mOf cs k = mOf cs i
      · rw [hm, nth_set_self (by rw [msK_length]; exact hp)]; omega
      · rw [nth_set_ne hm]
        rcases Nat.lt_or_eq_of_le (Nat.le_of_lt_succ hk) with h | h
        · exact msK_of hi hp k h
        · exact absurd (by rw [h]) hm
    · rename_i hc
      rcases Nat.lt_or_eq_of_le (Nat.le_of_lt_succ hk) with h | h
      · exact msK_of hi hp k h
      · subst h; exact absurd ⟨hi, hp⟩ hc
end Go.Proofs.YtjahmnenfknjgaaGreatDoor
namespace Go.Proofs.YtjahmnenfknjgaaGreatDoor

/-- One level in each run; two next to one another differ. -/
structure RunLv (lv : List Int) (rs : List (List Nat)) : Prop where
  same : ∀ r, r ∈ rs → ∀ x y, x ∈ r → y ∈ r → nth lv x = nth lv y
  diff : ∀ k, k + 1 < rs.length → ∀ x y, x ∈ lat rs k → y ∈ lat rs (k + 1) → nth lv x ≠ nth lv y
theorem lat_append_left {rs : List (List Nat)} {r : List Nat} {k : Nat} (h : k < rs.length) : lat (rs ++ [r]) k = lat rs k := by simp [lat, List.getElem?_append_left h]
theorem lat_append_self (rs : List (List Nat)) (r : List Nat) : lat (rs ++ [r]) rs.length = r := by simp [lat]
theorem lat_set_self {rs : List (List Nat)} {r : List Nat} {k : Nat} (h : k < rs.length) : lat (rs.set k r) k = r := by simp [lat, h]
theorem lat_set_ne {rs : List (List Nat)} {r : List Nat} {k j : Nat} (h : k ≠ j) : lat (rs.set k r) j = lat rs j := by simp [lat, List.getElem?_set_ne h]
theorem rst_lv (lv : List Int) : ∀ i, RunLv lv (rst lv i).1 ∧ (0 < (rst lv i).1.length → ∀ x, x ∈ lat (rst lv i).1 ((rst lv i).1.length - 1) → nth lv x = (rst lv i).2) ∧ ((rst lv i).1.length = 0 → (rst lv i).2 = -1)
  | 0 => ⟨⟨fun r hr => by simp [rst] at hr, fun k hk => by simp [rst] at hk⟩, fun h => by simp [rst] at h, fun _ => rfl⟩
  | i + 1 => by
    obtain ⟨⟨h1, h2⟩, h3, h4⟩ := rst_lv lv i
    by_cases hn : nth lv i = -1
    · rw [rst_skip hn]; exact ⟨⟨h1, h2⟩, h3, h4⟩
    by_cases hs : nth lv i = (rst lv i).2
    · have hp : 0 < (rst lv i).1.length := rst_ne lv i (by omega)
      have h3 := h3 hp
      rw [rst_same hn hs]
      have hl : (rst lv i).1.length - 1 < (rst lv i).1.length := by omega
      have hin : ∀ x, x ∈ lat (rst lv i).1 ((rst lv i).1.length - 1) ++ [i] → nth lv x = (rst lv i).2 := fun x hx => by
        rcases List.mem_append.1 hx with hx | hx
        · exact h3 x hx
        · simp at hx; rw [hx]; exact hs
      refine ⟨⟨fun r hr x y hx hy => ?_, fun k hk x y hx hy => ?_⟩, fun _ x hx => ?_, fun h => ?_⟩
      · rcases List.mem_or_eq_of_mem_set hr with hr | hr
        · exact h1 r hr x y hx hy
        · subst hr; rw [hin x hx, hin y hy]
      · simp only [List.length_set] at hk
        rw [lat_set_ne (by omega)] at hx
        by_cases hke : k + 1 = (rst lv i).1.length - 1
        · rw [hke, lat_set_self hl] at hy
          rw [hin y hy]
          obtain ⟨z, hz⟩ := List.exists_mem_of_ne_nil _ (rst_mem lv i _ (lat_mem (rs := (rst lv i).1) (i := k + 1) (by omega))).1
          rw [← h3 z (by rw [← hke]; exact hz)]
          exact h2 k hk x z hx hz
        · rw [lat_set_ne (by omega)] at hy
          exact h2 k hk x y hx hy
      · simp only [List.length_set] at hx
        rw [lat_set_self hl] at hx
        exact hin x hx
      · simp only [List.length_set] at h; omega
    · rw [rst_new hn hs]
      refine ⟨⟨fun r hr x y hx hy => ?_, fun k hk x y hx hy => ?_⟩, fun _ x hx => ?_, fun h => ?_⟩
      · rcases List.mem_append.1 hr with hr | hr
        · exact h1 r hr x y hx hy
        · simp at hr; subst hr; simp at hx hy; rw [hx, hy]
      · simp only [List.length_append, List.length_singleton] at hk
        rw [lat_append_left (by omega)] at hx
        by_cases hke : k + 1 = (rst lv i).1.length
        · rw [hke, lat_append_self] at hy
          simp at hy; subst hy
          rw [h3 (by omega) x (by rw [← hke]; exact hx)]; exact fun h => hs h.symm
        · rw [lat_append_left (by omega)] at hy
          exact h2 k (by omega) x y hx hy
      · simp only [List.length_append, List.length_singleton, Nat.add_sub_cancel] at hx
        rw [lat_append_self] at hx
        simp at hx; rw [hx]
      · simp at h
theorem runs_lv (lv : List Int) : RunLv lv (runs lv) := (rst_lv lv lv.length).1
theorem first_mem {r : List Nat} (h : r ≠ []) : nat r 0 ∈ r := nat_mem (List.length_pos_iff.2 h)
theorem up_first {r : List Nat} (h : Up r) : ∀ x, x ∈ r → nat r 0 ≤ x := by
  intro x hx
  cases r with
  | nil => cases hx
  | cons a r =>
    rcases List.mem_cons.1 hx with rfl | hx
    · exact Nat.le_refl _
    · exact Nat.le_of_lt ((List.pairwise_cons.1 h).1 x hx)
/-- What is asked of levels: kept places are those that X9 does not remove; isolates as X1 to X8 have them. -/
structure LvOk (cs : List Cl) (lv : List Int) : Prop where
  len : lv.length = cs.length
  kept : ∀ q, q < cs.length → ((cat cs q).isRem = true ↔ nth lv q = -1)
  iso : ∀ i, i < cs.length → (cat cs i).isInit = true → mOf cs i < cs.length → nth lv (mOf cs i) = nth lv i ∧ ((∀ q, i < q → q < mOf cs i → nth lv q ≠ -1 → nth lv i < nth lv q) ∨ (∀ q, i < q → q < mOf cs i → nth lv q ≠ -1 → nth lv q = nth lv i))
theorem LvOk.pdi {cs : List Cl} {lv : List Int} (h : LvOk cs lv) {q : Nat} (hq : q < cs.length) (hp : cat cs q = .PDI) : nth lv q ≠ -1 := fun e => by
  have := (h.kept q hq).2 e; rw [hp] at this; exact absurd this (by decide)
/-- The end of a run that ends in an initiator begins a run. -/
theorem begin_of_end {cs : List Cl} {lv : List Int} (h : LvOk cs lv) {r r' : List Nat} (hr : r ∈ runs lv) (hn : nxt cs (runs lv) r = some r') : r' ∈ runs lv ∧ nat r' 0 = mOf cs (lastOf r) := by
  have ho := nxt_ok h.len (fun q hq hp => h.pdi hq hp) hr hn
  have hrm := runs_mem hr
  have hlm := lastOf_mem hrm.1
  have hll := (hrm.2 _ hlm).1
  rw [h.len] at hll
  have hrm' := runs_mem ho.mem
  refine ⟨ho.mem, ?_⟩
  unfold nxt at hn
  split at hn
  · rename_i hc
    injection hn with hn
    have hmlt : mOf cs (lastOf r) < cs.length := by have := mOf_le cs (lastOf r); omega
    have hgt := mOf_gt (cs := cs) (i := lastOf r) hll
    have hrin := runOf_in (kl := lv) (x := mOf cs (lastOf r)) (by rw [h.len]; exact hmlt) (h.pdi hmlt (mOf_pdi hmlt))
    rw [hn] at hrin
    obtain ⟨k, hk, ek⟩ := mem_lat hr
    have hm : runOf (runs lv) (mOf cs (lastOf r)) < (runs lv).length := hrin.1
    generalize runOf (runs lv) (mOf cs (lastOf r)) = m at hn hm hrin
    have hkm : k < m := by
      rcases Nat.lt_trichotomy k m with h3 | h3 | h3
      · exact h3
      · exfalso; have := ho.lt (lastOf r) (lastOf r) hlm (by rw [← hn, ← h3, ek]; exact hlm); omega
      · exfalso
        have h1 := (runs_up lv).2 m k h3 hk _ _ (by rw [hn]; exact hrin.2) (by rw [ek]; exact hlm)
        omega
    obtain ⟨h5, h6⟩ := h.iso _ hll hc.1 hmlt
    have h7 : lastOf r < nat r' 0 := ho.lt _ _ hlm (first_mem hrm'.1)
    have h8 : nat r' 0 ≤ mOf cs (lastOf r) := up_first ((runs_up lv).1 r' ho.mem) _ hrin.2
    -- the run right behind
    have hk1 : k + 1 < (runs lv).length := by omega
    have hf := runs_mem (lat_mem hk1)
    have hfm := first_mem hf.1
    have h9 : nth lv (lastOf r) ≠ nth lv (nat (lat (runs lv) (k + 1)) 0) := (runs_lv lv).diff k hk1 _ _ (by rw [ek]; exact hlm) hfm
    have h10 : lastOf r < nat (lat (runs lv) (k + 1)) 0 := (runs_up lv).2 k (k + 1) (by omega) hk1 _ _ (by rw [ek]; exact hlm) hfm
    have h11 : nat (lat (runs lv) (k + 1)) 0 ≤ mOf cs (lastOf r) := by
      rcases Nat.lt_or_eq_of_le (show k + 1 ≤ m by omega) with h3 | h3
      · exact Nat.le_of_lt ((runs_up lv).2 _ _ h3 hm _ _ hfm (by rw [hn]; exact hrin.2))
      · rw [h3, hn]; exact h8
    have h12 : nat (lat (runs lv) (k + 1)) 0 ≠ mOf cs (lastOf r) := fun e => h9 (by rw [e]; exact h5.symm)
    rcases h6 with h6 | h6
    · rcases Nat.lt_or_eq_of_le h8 with h13 | h13
      · have h14 := h6 _ h7 h13 (hrm'.2 _ (first_mem hrm'.1)).2
        have h15 := (runs_lv lv).same r' ho.mem _ _ (first_mem hrm'.1) hrin.2
        omega
      · exact h13
    · exact absurd (h6 _ h10 (by omega) (hf.2 _ hfm).2).symm h9
  · cases hn
/-- A matched end that begins a run has its initiator at a run's end. -/
theorem end_of_begin {cs : List Cl} {lv : List Int} (h : LvOk cs lv) {i m : Nat} (hm : m < (runs lv).length) (hil : i < cs.length) (hi : (cat cs i).isInit = true) (he : mOf cs i = nat (lat (runs lv) m) 0) :
    ∃ k, k < m ∧ lastOf (lat (runs lv) k) = i := by
  have hrm := runs_mem (lat_mem hm)
  have hfm := first_mem hrm.1
  have hmlt : mOf cs i < cs.length := by rw [he, ← h.len]; exact (hrm.2 _ hfm).1
  have hgt := mOf_gt (cs := cs) hil
  have hik : nth lv i ≠ -1 := fun e => by
    have := (h.kept i hil).2 e
    cases hc : cat cs i <;> simp [hc, Cl.isInit] at hi <;> simp [hc, Cl.isRem] at this
  obtain ⟨hk, hin⟩ := runOf_in (kl := lv) (x := i) (by rw [h.len]; exact hil) hik
  generalize runOf (runs lv) i = k at hk hin
  have hkm : k < m := by
    rcases Nat.lt_trichotomy k m with h3 | h3 | h3
    · exact h3
    · exfalso; have := up_first ((runs_up lv).1 _ (lat_mem hm)) i (by rw [← h3]; exact hin); omega
    · exfalso; have := (runs_up lv).2 m k h3 hk _ _ hfm hin; omega
  refine ⟨k, hkm, ?_⟩
  have hrk := runs_mem (lat_mem hk)
  have hlk := lastOf_mem hrk.1
  have h1 := up_last ((runs_up lv).1 _ (lat_mem hk)) hrk.1 i hin
  have h2 : lastOf (lat (runs lv) k) < nat (lat (runs lv) m) 0 := (runs_up lv).2 k m hkm hm _ _ hlk hfm
  rcases Nat.lt_or_eq_of_le h1 with h3 | h3
  · exfalso
    obtain ⟨h5, h6⟩ := h.iso i hil hi hmlt
    have h7 := (runs_lv lv).same _ (lat_mem hk) _ _ hin hlk
    rcases h6 with h6 | h6
    · have := h6 _ h3 (by omega) (hrk.2 _ hlk).2; omega
    · obtain ⟨j, rfl⟩ : ∃ j, m = j + 1 := ⟨m - 1, by omega⟩
      have hj : j < (runs lv).length := by omega
      have hrj := runs_mem (lat_mem hj)
      have hlj := lastOf_mem hrj.1
      have h8 : lastOf (lat (runs lv) k) ≤ lastOf (lat (runs lv) j) := by
        rcases Nat.lt_or_eq_of_le (show k ≤ j by omega) with h9 | h9
        · exact Nat.le_of_lt ((runs_up lv).2 k j h9 hj _ _ hlk hlj)
        · rw [h9]; exact Nat.le_refl _
      have h10 : lastOf (lat (runs lv) j) < nat (lat (runs lv) (j + 1)) 0 := (runs_up lv).2 j (j + 1) (by omega) hm _ _ hlj hfm
      have h11 := h6 _ (show i < lastOf (lat (runs lv) j) by omega) (by omega) (hrj.2 _ hlj).2
      exact (runs_lv lv).diff j hm _ _ hlj hfm (by rw [h11, ← he]; exact h5.symm)
  · exact h3.symm

/-- A way from run to run: its places, and its last run. -/
inductive Path (N : List Nat → Option (List Nat)) : List Nat → List Nat → List Nat → Prop
  | one (r : List Nat) : Path N r r r
  | cons {r r' x l : List Nat} : N r = some r' → Path N r' x l → Path N r (r ++ x) l
theorem Path.snoc {N : List Nat → Option (List Nat)} {r x l l' : List Nat} (h : Path N r x l) (hl : N l = some l') : Path N r (x ++ l') l' := by
  induction h with
  | one r => exact .cons hl (.one l')
  | cons h1 _ ih => rw [List.append_assoc]; exact .cons h1 (ih hl)
theorem Path.flw {cs : List Cl} {lv : List Int} (h : LvOk cs lv) {r x l : List Nat} (hp : Path (nxt cs (runs lv)) r x l) (hl : nxt cs (runs lv) l = none) : ∀ f, r ∈ runs lv → cs.length ≤ f + lastOf r → Go.Proofs.YtjahmnenfknjgaaGreatDoor.flw cs (runs lv) f r = x := by
  induction hp with
  | one r =>
    intro f hr hf
    cases f with
    | zero => rfl
    | succ f => rw [Go.Proofs.YtjahmnenfknjgaaGreatDoor.flw, hl]
  | @cons r r' x l h1 h2 ih =>
    intro f hr hf
    have ho := nxt_ok h.len (fun q hq hp => h.pdi hq hp) hr h1
    cases f with
    | zero =>
      have := (runs_mem hr).2 _ (lastOf_mem (runs_mem hr).1)
      have := h.len
      omega
    | succ f => rw [Go.Proofs.YtjahmnenfknjgaaGreatDoor.flw, h1]; simp only; rw [ih hl f ho.mem (by have := ho.last; omega)]
theorem take_succ_lat {rs : List (List Nat)} {j : Nat} (h : j < rs.length) : rs.take (j + 1) = rs.take j ++ [lat rs j] := by
  rw [List.take_add_one, List.getElem?_eq_getElem h]; simp [lat, h]
theorem mem_take_lat {rs : List (List Nat)} {r : List Nat} {j : Nat} (h : r ∈ rs.take j) : ∃ i, i < j ∧ i < rs.length ∧ lat rs i = r := by
  obtain ⟨i, hi, e⟩ := List.getElem_of_mem h
  simp only [List.length_take] at hi
  exact ⟨i, by omega, by omega, by rw [← e]; simp [lat, show i < rs.length by omega]⟩
theorem lat_inj {lv : List Int} {i j : Nat} (hi : i < (runs lv).length) (hj : j < (runs lv).length) (h : lat (runs lv) i = lat (runs lv) j) : i = j := by
  have hm := first_mem (runs_mem (lat_mem hi)).1
  exact runs_disj hi hj hm (h ▸ hm)
/-- The joining behind the first j runs. -/
structure ChI (cs : List Cl) (lv : List Int) (j : Nat) (s : Jn) (e : Nat → List Nat) : Prop where
  len : s.out.length = (((runs lv).take j).filter (begins cs)).length
  path : ∀ k, k < s.out.length → Path (nxt cs (runs lv)) (lat (((runs lv).take j).filter (begins cs)) k) (lat s.out k) (e k)
  endIn : ∀ k, k < s.out.length → e k ∈ (runs lv).take j
  map : ∀ k, k < s.out.length → (cat cs (lastOf (e k))).isInit = true → mOf cs (lastOf (e k)) < cs.length → look s.mp (mOf cs (lastOf (e k))) = some k
  keys : ∀ key k, look s.mp key = some k → ∃ r, r ∈ (runs lv).take j ∧ (cat cs (lastOf r)).isInit = true ∧ key = mOf cs (lastOf r)
  opn : ∀ k, k < s.out.length → ∀ r', nxt cs (runs lv) (e k) = some r' → r' ∉ (runs lv).take j
  cover : ∀ r, r ∈ (runs lv).take j → (∃ k, k < s.out.length ∧ e k = r) ∨ ∃ r', r' ∈ (runs lv).take j ∧ nxt cs (runs lv) r = some r'
theorem begins_false {cs : List Cl} {r : List Nat} : begins cs r = false ↔ cat cs (nat r 0) = .PDI ∧ nth (msI cs) (nat r 0) ≠ -1 := by
  unfold begins; cases h : (cat cs (nat r 0) == .PDI) <;> simp at h <;> simp [h]
theorem nxt_some {cs : List Cl} {lv : List Int} {r r' : List Nat} (h : LvOk cs lv) (hr : r ∈ runs lv) (hn : nxt cs (runs lv) r = some r') : (cat cs (lastOf r)).isInit = true ∧ mOf cs (lastOf r) < cs.length := by
  unfold nxt at hn
  split at hn
  · rename_i hc; exact ⟨hc.1, by have := mOf_le cs (lastOf r); omega⟩
  · cases hn
theorem nxt_late {cs : List Cl} {lv : List Int} {r' : List Nat} {j : Nat} (h : LvOk cs lv) (hj : j < (runs lv).length) (hn : nxt cs (runs lv) (lat (runs lv) j) = some r') : r' ∉ (runs lv).take (j + 1) := fun hr => by
  have ho := nxt_ok h.len (fun q hq hp => h.pdi hq hp) (lat_mem hj) hn
  obtain ⟨i, hij, hi, rfl⟩ := mem_take_lat hr
  have h1 := lastOf_mem (runs_mem (lat_mem hj)).1
  have h2 := lastOf_mem (runs_mem (lat_mem hi)).1
  rcases Nat.lt_or_eq_of_le (Nat.le_of_lt_succ hij) with h3 | h3
  · have h4 := (runs_up lv).2 i j h3 hj _ _ h2 h1
    have := ho.last; omega
  · subst h3; exact Nat.lt_irrefl _ ho.last
theorem ChI.step {cs : List Cl} {lv : List Int} (h : LvOk cs lv) {j : Nat} {s : Jn} {e : Nat → List Nat} (hj : j < (runs lv).length) (H : ChI cs lv j s e) : ∃ e', ChI cs lv (j + 1) (jstep cs s (lat (runs lv) j)) e' := by
  have hrm := runs_mem (lat_mem hj)
  have hfm := first_mem hrm.1
  have hlm := lastOf_mem hrm.1
  have hfl : nat (lat (runs lv) j) 0 < cs.length := by rw [← h.len]; exact (hrm.2 _ hfm).1
  have hll : lastOf (lat (runs lv) j) < cs.length := by rw [← h.len]; exact (hrm.2 _ hlm).1
  have hold : ∀ r, r ∈ (runs lv).take j → lastOf r ≠ lastOf (lat (runs lv) j) ∧ lastOf r < cs.length := fun r hr => by
    obtain ⟨i, hij, hi, rfl⟩ := mem_take_lat hr
    have hrl := lastOf_mem (runs_mem (lat_mem hi)).1
    refine ⟨fun he => ?_, by rw [← h.len]; exact ((runs_mem (lat_mem hi)).2 _ hrl).1⟩
    have := runs_disj hi hj hrl (he ▸ hlm); omega
  have hnew : lat (runs lv) j ∉ (runs lv).take j := fun hr => (hold _ hr).1 rfl
  have htk := take_succ_lat hj
  generalize hR : lat (runs lv) j = R at *
  have hmap : ∀ (p k : Nat) (x : Nat), k < s.out.length → (cat cs (lastOf (e k))).isInit = true → mOf cs (lastOf (e k)) < cs.length →
      look (if (cat cs (lastOf R)).isInit = true then (nth (mt cs) (lastOf R), p) :: s.mp else s.mp) (mOf cs (lastOf (e k))) = some k := by
    intro p k x hk hi hlt
    split
    · rename_i hc
      rw [look]
      split
      · rename_i he
        exfalso
        simp only [nth_mt hll, mAt_init hc] at he
        have he : mOf cs (lastOf R) = mOf cs (lastOf (e k)) := by omega
        exact (hold _ (H.endIn k hk)).1 (mOf_inj hi hc (hold _ (H.endIn k hk)).2 hll he.symm hlt)
      · exact H.map k hk hi hlt
    · exact H.map k hk hi hlt
  have hmap' : ∀ p : Nat, (cat cs (lastOf R)).isInit = true → look (if (cat cs (lastOf R)).isInit = true then (nth (mt cs) (lastOf R), p) :: s.mp else s.mp) (mOf cs (lastOf R)) = some p := by
    intro p hc
    rw [if_pos hc, look, nth_mt hll, mAt_init hc, if_pos rfl]
  have hkeys : ∀ (p : Nat) key k, look (if (cat cs (lastOf R)).isInit = true then (nth (mt cs) (lastOf R), p) :: s.mp else s.mp) key = some k → ∃ r, r ∈ (runs lv).take (j + 1) ∧ (cat cs (lastOf r)).isInit = true ∧ key = mOf cs (lastOf r) := by
    intro p key k hk
    rw [htk]
    split at hk
    · rename_i hc
      rw [look] at hk
      split at hk
      · rename_i he
        exact ⟨R, by simp, hc, by rw [← he]; simp only [nth_mt hll, mAt_init hc]⟩
      · obtain ⟨r, h1, h2⟩ := H.keys key k hk
        exact ⟨r, by simp [h1], h2⟩
    · obtain ⟨r, h1, h2⟩ := H.keys key k hk
      exact ⟨r, by simp [h1], h2⟩
  by_cases hbg : begins cs R = true
  · have hjk : jk s R = none := by
      cases hk : jk s R with
      | none => rfl
      | some k =>
        exfalso
        obtain ⟨r, h1, h2, h3⟩ := H.keys _ k hk
        have h3 : nat R 0 = mOf cs (lastOf r) := by omega
        have h4 : mOf cs (lastOf r) < cs.length := by omega
        have h5 := begins_false.2 ⟨by rw [h3]; exact mOf_pdi h4, by rw [h3]; exact msK_of h2 h4 _ (hold r h1).2⟩
        rw [hbg] at h5; cases h5
    have hB : ((runs lv).take (j + 1)).filter (begins cs) = ((runs lv).take j).filter (begins cs) ++ [R] := by
      rw [htk, List.filter_append]; simp [hbg]
    refine ⟨fun k => if k = s.out.length then R else e k, ?_⟩
    have hout : (jstep cs s R).out = s.out ++ [R] := by simp only [jstep, jout, hjk]
    have hmp : (jstep cs s R).mp = if (cat cs (lastOf R)).isInit = true then (nth (mt cs) (lastOf R), s.out.length) :: s.mp else s.mp := by
      simp only [jstep, jpos, hjk]; rfl
    refine ⟨?_, fun k hk => ?_, fun k hk => ?_, fun k hk => ?_, fun key k hk => ?_, fun k hk r' hn => ?_, fun r hr => ?_⟩
    · rw [hout, hB]; simp [H.len]
    · rw [hout, hB]; rw [hout] at hk
      simp only [List.length_append, List.length_singleton] at hk
      by_cases hke : k = s.out.length
      · simp only [hke, if_true]
        rw [lat_append_self, H.len, lat_append_self]; exact .one R
      · simp only [if_neg hke]
        rw [lat_append_left (by rw [← H.len]; omega), lat_append_left (by omega)]; exact H.path k (by omega)
    · rw [hout] at hk
      simp only [List.length_append, List.length_singleton] at hk
      rw [htk]
      by_cases hke : k = s.out.length
      · simp [hke]
      · simp only [if_neg hke]; exact List.mem_append_left _ (H.endIn k (by omega))
    · rw [hout] at hk
      simp only [List.length_append, List.length_singleton] at hk
      rw [hmp]
      by_cases hke : k = s.out.length
      · simp only [hke, if_true]; intro hi _; exact hmap' _ hi
      · simp only [if_neg hke]; exact hmap _ k 0 (by omega)
    · rw [hmp] at hk; exact hkeys _ key k hk
    · rw [hout] at hk
      simp only [List.length_append, List.length_singleton] at hk
      by_cases hke : k = s.out.length
      · simp only [hke, if_true] at hn
        rw [← hR] at hn; exact nxt_late h hj hn
      · simp only [if_neg hke] at hn
        rw [htk]
        intro hx
        rcases List.mem_append.1 hx with hx | hx
        · exact H.opn k (by omega) r' hn hx
        · simp at hx; subst hx
          have hek := List.mem_of_mem_take (H.endIn k (by omega))
          have h1 := begin_of_end h hek hn
          have h2 := nxt_some h hek hn
          have h5 := begins_false.2 ⟨by rw [h1.2]; exact mOf_pdi h2.2, by rw [h1.2]; exact msK_of h2.1 h2.2 _ (hold _ (H.endIn k (by omega))).2⟩
          rw [hbg] at h5; cases h5
    · rw [htk] at hr
      rcases List.mem_append.1 hr with hr | hr
      · rcases H.cover r hr with ⟨k, h1, h2⟩ | ⟨r', h1, h2⟩
        · exact .inl ⟨k, by rw [hout]; simp; omega, by simp only [if_neg (show k ≠ s.out.length by omega)]; exact h2⟩
        · exact .inr ⟨r', by rw [htk]; simp [h1], h2⟩
      · simp at hr; subst hr
        exact .inl ⟨s.out.length, by rw [hout]; simp, by simp⟩
  · have hbf : begins cs R = false := by simpa using hbg
    obtain ⟨hpd, hms⟩ := begins_false.1 hbf
    obtain ⟨i, hil, hi, hie⟩ := msK_yes cs.length (Nat.le_refl _) hms hfl
    obtain ⟨k0, hk0, hk0e⟩ := end_of_begin h hj hil hi (by rw [hR]; exact hie)
    have hk0l : k0 < (runs lv).length := by omega
    have hrk0 : lat (runs lv) k0 ∈ (runs lv).take j := by
      rw [List.mem_take_iff_getElem]
      exact ⟨k0, by omega, by simp [lat, hk0l]⟩
    have hnx : nxt cs (runs lv) (lat (runs lv) k0) = some R := by
      unfold nxt
      rw [hk0e, if_pos ⟨hi, by omega⟩, hie, runOf_eq (i := j) hj (by rw [hR]; exact hfm), hR]
    obtain ⟨k, hk, hke⟩ : ∃ k, k < s.out.length ∧ e k = lat (runs lv) k0 := by
      rcases H.cover _ hrk0 with h1 | ⟨r', h1, h2⟩
      · exact h1
      · rw [hnx] at h2; injection h2 with h2; subst h2; exact absurd h1 hnew
    have hjk : jk s R = some k := by
      have := H.map k hk (by rw [hke, hk0e]; exact hi) (by rw [hke, hk0e]; omega)
      rw [hke, hk0e, hie] at this; exact this
    have hB : ((runs lv).take (j + 1)).filter (begins cs) = ((runs lv).take j).filter (begins cs) := by
      rw [htk, List.filter_append]; simp [hbf]
    have hout : (jstep cs s R).out = s.out.set k (lat s.out k ++ R) := by simp only [jstep, jout, hjk]
    have hmp : (jstep cs s R).mp = if (cat cs (lastOf R)).isInit = true then (nth (mt cs) (lastOf R), k) :: s.mp else s.mp := by
      simp only [jstep, jpos, hjk]; rfl
    have hol : (jstep cs s R).out.length = s.out.length := by rw [hout, List.length_set]
    refine ⟨fun x => if x = k then R else e x, ?_⟩
    refine ⟨?_, fun x hx => ?_, fun x hx => ?_, fun x hx => ?_, fun key x hx => ?_, fun x hx r' hn => ?_, fun r hr => ?_⟩
    · rw [hol, hB]; exact H.len
    · rw [hol] at hx
      rw [hB, hout]
      by_cases hxe : x = k
      · subst hxe
        simp only [if_true]
        rw [lat_set_self hk]
        exact (H.path x hk).snoc (by rw [hke]; exact hnx)
      · simp only [if_neg hxe]
        rw [lat_set_ne (by omega)]; exact H.path x hx
    · rw [hol] at hx
      rw [htk]
      by_cases hxe : x = k
      · simp [hxe]
      · simp only [if_neg hxe]; exact List.mem_append_left _ (H.endIn x hx)
    · rw [hol] at hx
      rw [hmp]
      by_cases hxe : x = k
      · simp only [hxe, if_true]; intro hi' _; exact hmap' _ hi'
      · simp only [if_neg hxe]; exact hmap _ x 0 hx
    · rw [hmp] at hx; exact hkeys _ key x hx
    · rw [hol] at hx
      by_cases hxe : x = k
      · simp only [hxe, if_true] at hn
        rw [← hR] at hn; exact nxt_late h hj hn
      · simp only [if_neg hxe] at hn
        rw [htk]
        intro hy
        rcases List.mem_append.1 hy with hy | hy
        · exact H.opn x hx r' hn hy
        · simp at hy; subst hy
          have hek := List.mem_of_mem_take (H.endIn x hx)
          have h1 := begin_of_end h hek hn
          have h2 := nxt_some h hek hn
          have h3 := H.map x hx h2.1 h2.2
          rw [← h1.2] at h3
          have h4 : look s.mp (nat r' 0) = some k := hjk
          rw [h4] at h3; injection h3 with h3; exact hxe h3.symm
    · rw [hol]
      rw [htk] at hr
      rcases List.mem_append.1 hr with hr | hr
      · rcases H.cover r hr with ⟨x, h1, h2⟩ | ⟨r', h1, h2⟩
        · by_cases hxe : x = k
          · subst hxe
            exact .inr ⟨R, by rw [htk]; simp, by rw [← h2, hke]; exact hnx⟩
          · exact .inl ⟨x, h1, by simp only [if_neg hxe]; exact h2⟩
        · exact .inr ⟨r', by rw [htk]; simp [h1], h2⟩
      · simp at hr; subst hr
        exact .inl ⟨k, hk, by simp⟩
theorem ji_all {cs : List Cl} {lv : List Int} (h : LvOk cs lv) : ∀ j, j ≤ (runs lv).length → ∃ e, ChI cs lv j (jst cs (runs lv) j) e
  | 0, _ => ⟨fun _ => [], by simp [jst], fun k hk => by simp [jst] at hk, fun k hk => by simp [jst] at hk, fun k hk => by simp [jst] at hk, fun key k hk => by simp [jst, look] at hk, fun k hk => by simp [jst] at hk, fun r hr => by simp at hr⟩
  | j + 1, hj => by
    obtain ⟨e, H⟩ := ji_all h j (by omega)
    exact H.step h (by omega)
/-- The chains of both are the same. -/
theorem joined_eq {cs : List Cl} {lv : List Int} (h : LvOk cs lv) : joined cs lv = chnsP cs lv := by
  obtain ⟨e, H⟩ := ji_all h (runs lv).length (Nat.le_refl _)
  have hT : (runs lv).take (runs lv).length = runs lv := List.take_length
  have Hlen := H.len
  rw [hT] at Hlen
  unfold joined chnsP
  apply List.ext_getElem
  · rw [Hlen]; simp
  · intro k h1 h2
    have hB : k < ((runs lv).filter (begins cs)).length := by simpa using h2
    have hp := H.path k h1
    have he := H.endIn k h1
    rw [hT] at hp he
    have hl : nxt cs (runs lv) (e k) = none := by
      cases hn : nxt cs (runs lv) (e k) with
      | none => rfl
      | some r' =>
        exfalso
        have := H.opn k h1 r' hn
        rw [hT] at this
        exact this (begin_of_end h he hn).1
    have hm : lat ((runs lv).filter (begins cs)) k ∈ runs lv := (List.mem_filter.1 (lat_mem hB)).1
    have := hp.flw h hl cs.length hm (by omega)
    rw [List.getElem_map]
    have e1 : ((runs lv).filter (begins cs))[k] = lat ((runs lv).filter (begins cs)) k := by simp [lat, hB]
    rw [e1, this]; simp [lat, h1]
/-- A chain's last place: an initiator there has no end. -/
theorem chain_last {cs : List Cl} {lv : List Int} (h : LvOk cs lv) {pl : List Nat} (hpl : pl ∈ chnsP cs lv) : (cat cs (lastOf pl)).isInit = true → mOf cs (lastOf pl) = cs.length := by
  unfold chnsP at hpl
  obtain ⟨r, hr, rfl⟩ := List.mem_map.1 hpl
  have hr := (List.mem_filter.1 hr).1
  have aux : ∀ f r, r ∈ runs lv → cs.length ≤ f + lastOf r → ∃ l, l ∈ runs lv ∧ lastOf (flw cs (runs lv) f r) = lastOf l ∧ nxt cs (runs lv) l = none := by
    intro f
    induction f with
    | zero =>
      intro r hr hf
      have := (runs_mem hr).2 _ (lastOf_mem (runs_mem hr).1)
      have := h.len
      omega
    | succ f ih =>
      intro r hr hf
      unfold flw
      cases hn : nxt cs (runs lv) r with
      | none => exact ⟨r, hr, rfl, hn⟩
      | some r' =>
        have ho := nxt_ok h.len (fun q hq hp => h.pdi hq hp) hr hn
        have hf' : cs.length ≤ f + lastOf r' := by have := ho.last; omega
        obtain ⟨l, h1, h2, h3⟩ := ih r' ho.mem hf'
        refine ⟨l, h1, ?_, h3⟩
        have hne := (flw_ok h.len (fun q hq hp => h.pdi hq hp) f r' ho.mem hf').2.2
        rw [← h2]
        have hpos := List.length_pos_iff.2 hne
        simp only [lastOf, nat, List.length_append]
        rw [show r.length + (flw cs (runs lv) f r').length - 1 = r.length + ((flw cs (runs lv) f r').length - 1) by omega]
        rw [List.getD_eq_getElem?_getD, List.getD_eq_getElem?_getD, List.getElem?_append_right (by omega), Nat.add_sub_cancel_left]
  obtain ⟨l, h1, h2, h3⟩ := aux cs.length r hr (by omega)
  rw [h2]
  intro hi
  unfold nxt at h3
  split at h3
  · cases h3
  · rename_i hc
    by_cases he : mOf cs (lastOf l) = cs.length
    · exact he
    · exact absurd ⟨hi, he⟩ hc
end Go.Proofs.YtjahmnenfknjgaaGreatDoor
namespace Go.Proofs.YtjahmnenfknjgaaGreatDoor

structure NQ (D : Nat → Prop) (l m : List Cl) : Prop where
  len : l.length = m.length
  at_ : ∀ i, cat l i = cat m i ∨ (D i ∧ (cat l i).isNI = true ∧ (cat m i).isNI = true)
theorem NQ.lst {D : Nat → Prop} {n : Nat} {f g : Nat → Cl} (h : ∀ i, i < n → f i = g i ∨ (D i ∧ (f i).isNI = true ∧ (g i).isNI = true)) : NQ D (lst n f) (lst n g) :=
  ⟨by simp [lst_length], fun i => by
    by_cases hi : i < n
    · rw [cat_lst hi, cat_lst hi]; exact h i hi
    · left; simp [cat, Go.Proofs.YtjahmnenfknjgaaGreatDoor.lst, hi]⟩
theorem NQ.ni {D : Nat → Prop} {l m : List Cl} (h : NQ D l m) (i : Nat) : (cat l i).isNI = (cat m i).isNI := by
  rcases h.at_ i with e | ⟨_, e1, e2⟩
  · rw [e]
  · rw [e1, e2]
theorem NQ.is {D : Nat → Prop} {l m : List Cl} (h : NQ D l m) (i : Nat) {c : Cl} (hc : c.isNI = false) : (cat l i = c) = (cat m i = c) := by
  rcases h.at_ i with e | ⟨_, e1, e2⟩
  · rw [e]
  · apply propext
    exact ⟨fun x => (by rw [x, hc] at e1; cases e1), fun x => (by rw [x, hc] at e2; cases e2)⟩
theorem NQ.val {D : Nat → Prop} {l m : List Cl} (h : NQ D l m) {i : Nat} (hc : (cat l i).isNI = false) : cat l i = cat m i := by
  rcases h.at_ i with e | ⟨_, e1, e2⟩
  · exact e
  · rw [hc] at e1; cases e1
theorem NQ.f {D : Nat → Prop} {l m : List Cl} (h : NQ D l m) {α : Type} (f : Cl → α) (hf : ∀ c d : Cl, c.isNI = true → d.isNI = true → f c = f d) (i : Nat) : f (cat l i) = f (cat m i) := by
  rcases h.at_ i with e | ⟨_, e1, e2⟩
  · rw [e]
  · exact hf _ _ e1 e2
theorem NQ.sb {D : Nat → Prop} {l m : List Cl} (h : NQ D l m) (st : Cl) : ∀ k, sb l st k = sb m st k
  | 0 => rfl
  | k + 1 => by
    rw [Go.Proofs.YtjahmnenfknjgaaGreatDoor.sb, Go.Proofs.YtjahmnenfknjgaaGreatDoor.sb, ← NQ.sb h st k]
    rcases h.at_ k with e | ⟨_, e1, e2⟩
    · rw [e]
    · rw [if_neg, if_neg]
      · rintro (x | x | x) <;> rw [x] at e2 <;> cases e2
      · rintro (x | x | x) <;> rw [x] at e1 <;> cases e1
theorem NQ.ite {D : Nat → Prop} {l m : List Cl} (h : NQ D l m) {i : Nat} {p q : Prop} [Decidable p] [Decidable q] {x : Cl} (hpq : p ↔ q) : (if p then x else cat l i) = (if q then x else cat m i) ∨ (D i ∧ (if p then x else cat l i).isNI = true ∧ (if q then x else cat m i).isNI = true) := by
  by_cases hp : p
  · left; rw [if_pos hp, if_pos (hpq.1 hp)]
  · rw [if_neg hp, if_neg (fun hq => hp (hpq.2 hq))]; exact h.at_ i
theorem NQ.w2 {D : Nat → Prop} {l m : List Cl} (h : NQ D l m) (st : Cl) : NQ D (w2L l st) (w2L m st) := by
  unfold w2L; rw [← h.len]
  exact .lst fun i _ => by unfold Go.Proofs.YtjahmnenfknjgaaGreatDoor.w2; exact h.ite (by rw [h.is i (c := .EN) rfl, h.sb])
theorem NQ.w3 {D : Nat → Prop} {l m : List Cl} (h : NQ D l m) : NQ D (w3L l) (w3L m) := by
  unfold w3L; rw [← h.len]
  exact .lst fun i _ => by unfold Go.Proofs.YtjahmnenfknjgaaGreatDoor.w3; exact h.ite (by rw [h.is i (c := .AL) rfl])
theorem NQ.w4 {D : Nat → Prop} {l m : List Cl} (h : NQ D l m) : NQ D (w4L l) (w4L m) := by
  unfold w4L; rw [← h.len]
  have key : ∀ i, Go.Proofs.YtjahmnenfknjgaaGreatDoor.w4 l i = Go.Proofs.YtjahmnenfknjgaaGreatDoor.w4 m i ∨ (D i ∧ (Go.Proofs.YtjahmnenfknjgaaGreatDoor.w4 l i).isNI = true ∧ (Go.Proofs.YtjahmnenfknjgaaGreatDoor.w4 m i).isNI = true) := by
    intro i
    induction i with
    | zero => exact h.at_ 0
    | succ i ih =>
      have his : ∀ c : Cl, c.isNI = false → (Go.Proofs.YtjahmnenfknjgaaGreatDoor.w4 l i = c ↔ Go.Proofs.YtjahmnenfknjgaaGreatDoor.w4 m i = c) := fun c hc => by
        rcases ih with e | ⟨_, e1, e2⟩
        · rw [e]
        · exact ⟨fun x => (by rw [x, hc] at e1; cases e1), fun x => (by rw [x, hc] at e2; cases e2)⟩
      rw [Go.Proofs.YtjahmnenfknjgaaGreatDoor.w4, Go.Proofs.YtjahmnenfknjgaaGreatDoor.w4, ← h.len]
      have hES := h.is (i + 1) (c := .ES) rfl
      have hCS := h.is (i + 1) (c := .CS) rfl
      have hEN := h.is (i + 2) (c := .EN) rfl
      have hAN := h.is (i + 2) (c := .AN) rfl
      have k1 := his .EN rfl
      have k2 := his .AN rfl
      have hcond : (i + 2 < l.length ∧ Go.Proofs.YtjahmnenfknjgaaGreatDoor.w4 l i = cat l (i + 2) ∧ ((cat l (i + 1) = .ES ∧ Go.Proofs.YtjahmnenfknjgaaGreatDoor.w4 l i = .EN) ∨ (cat l (i + 1) = .CS ∧ (Go.Proofs.YtjahmnenfknjgaaGreatDoor.w4 l i = .EN ∨ Go.Proofs.YtjahmnenfknjgaaGreatDoor.w4 l i = .AN)))) ↔
          (i + 2 < l.length ∧ Go.Proofs.YtjahmnenfknjgaaGreatDoor.w4 m i = cat m (i + 2) ∧ ((cat m (i + 1) = .ES ∧ Go.Proofs.YtjahmnenfknjgaaGreatDoor.w4 m i = .EN) ∨ (cat m (i + 1) = .CS ∧ (Go.Proofs.YtjahmnenfknjgaaGreatDoor.w4 m i = .EN ∨ Go.Proofs.YtjahmnenfknjgaaGreatDoor.w4 m i = .AN)))) := by
        rw [hES, hCS]
        by_cases e1 : Go.Proofs.YtjahmnenfknjgaaGreatDoor.w4 l i = .EN
        · have e2 := k1.1 e1
          rw [e1, e2, eq_comm, hEN, eq_comm]
        · have e2 : ¬ Go.Proofs.YtjahmnenfknjgaaGreatDoor.w4 m i = .EN := fun x => e1 (k1.2 x)
          by_cases e3 : Go.Proofs.YtjahmnenfknjgaaGreatDoor.w4 l i = .AN
          · have e4 := k2.1 e3
            rw [e3, e4, eq_comm, hAN, eq_comm]
          · have e4 : ¬ Go.Proofs.YtjahmnenfknjgaaGreatDoor.w4 m i = .AN := fun x => e3 (k2.2 x)
            simp [e1, e2, e3, e4]
      by_cases hc : i + 2 < l.length ∧ Go.Proofs.YtjahmnenfknjgaaGreatDoor.w4 l i = cat l (i + 2) ∧ ((cat l (i + 1) = .ES ∧ Go.Proofs.YtjahmnenfknjgaaGreatDoor.w4 l i = .EN) ∨ (cat l (i + 1) = .CS ∧ (Go.Proofs.YtjahmnenfknjgaaGreatDoor.w4 l i = .EN ∨ Go.Proofs.YtjahmnenfknjgaaGreatDoor.w4 l i = .AN)))
      · rw [if_pos hc, if_pos (hcond.1 hc)]
        left
        rcases hc.2.2 with ⟨_, e⟩ | ⟨_, e | e⟩
        · rw [e, k1.1 e]
        · rw [e, k1.1 e]
        · rw [e, k2.1 e]
      · rw [if_neg hc, if_neg (fun x => hc (hcond.2 x))]; exact h.at_ (i + 1)
  exact .lst fun i _ => key i
theorem NQ.pe {D : Nat → Prop} {l m : List Cl} (h : NQ D l m) : ∀ k, pe l k = pe m k
  | 0 => rfl
  | k + 1 => by
    rw [Go.Proofs.YtjahmnenfknjgaaGreatDoor.pe, Go.Proofs.YtjahmnenfknjgaaGreatDoor.pe, ← NQ.pe h k]
    simp only [h.is k (c := .ET) rfl, h.is k (c := .EN) rfl]
theorem NQ.ne {D : Nat → Prop} {l m : List Cl} (h : NQ D l m) : ∀ t k, l.length ≤ k + t → ne l k = ne m k
  | 0, k, hk => by rw [ne_end (by omega), ne_end (by rw [← h.len]; omega)]
  | t + 1, k, hk => by
    by_cases hl : k < l.length
    · have hm : k < m.length := by rw [← h.len]; exact hl
      by_cases he : cat l k = .ET
      · have he' := (h.is k (c := .ET) rfl).mp he
        rw [ne_et hl he, ne_et hm he']; exact NQ.ne h t (k + 1) (by omega)
      · have he' : cat m k ≠ .ET := fun x => he ((h.is k (c := .ET) rfl).mpr x)
        rw [ne_not hl he, ne_not hm he']
        simp only [h.is k (c := .EN) rfl]
    · rw [ne_end (by omega), ne_end (by rw [← h.len]; omega)]
theorem NQ.w5 {D : Nat → Prop} {l m : List Cl} (h : NQ D l m) : NQ D (w5L l) (w5L m) := by
  unfold w5L; rw [← h.len]
  exact .lst fun i _ => by unfold Go.Proofs.YtjahmnenfknjgaaGreatDoor.w5; exact h.ite (by rw [h.is i (c := .ET) rfl, h.pe, h.ne l.length i (by omega)])
theorem NQ.w6 {D : Nat → Prop} {l m : List Cl} (h : NQ D l m) : NQ D (w6L l) (w6L m) := by
  unfold w6L; rw [← h.len]
  exact .lst fun i _ => by unfold Go.Proofs.YtjahmnenfknjgaaGreatDoor.w6; exact h.ite (by rw [h.is i (c := .ES) rfl, h.is i (c := .ET) rfl, h.is i (c := .CS) rfl])
theorem NQ.w7 {D : Nat → Prop} {l m : List Cl} (h : NQ D l m) (st : Cl) : NQ D (w7L l st) (w7L m st) := by
  unfold w7L; rw [← h.len]
  exact .lst fun i _ => by unfold Go.Proofs.YtjahmnenfknjgaaGreatDoor.w7; exact h.ite (by rw [h.is i (c := .EN) rfl, h.sb])
theorem NQ.weakR {D : Nat → Prop} {l m : List Cl} (h : NQ D l m) (st : Cl) : NQ D (weakR l st) (weakR m st) := (h.w2 st).w3.w4.w5.w6.w7 st
/-- The marks: the package keeps the class of what stands ahead, be it an isolate's. -/
theorem marks_nq {l : List Cl} {st : Cl} : NQ (fun i => cat l i = .NSM) (marksS l st) (marksP l st) := by
  have key : ∀ i, mkS l st i = mkP l st i ∨ (cat l i = .NSM ∧ mkS l st i = .ON ∧ ((mkP l st i).isInit = true ∨ mkP l st i = .PDI)) := by
    intro i
    induction i with
    | zero => left; rfl
    | succ i ih =>
      rw [mkS, mkP]
      split
      · rename_i hn
        rcases ih with e | ⟨_, e1, e2⟩
        · rw [← e]
          split
          · rename_i hc; exact .inr ⟨hn, rfl, hc⟩
          · left; rfl
        · rw [e1, if_neg (by simp [Cl.isInit])]; exact .inr ⟨hn, rfl, e2⟩
      · left; rfl
  unfold marksS marksP
  exact .lst fun i _ => by
    rcases key i with e | ⟨h1, h2, h3⟩
    · exact .inl e
    · refine .inr ⟨h1, by rw [h2]; rfl, ?_⟩
      rcases h3 with h3 | h3
      · cases hc : mkP l st i <;> simp [hc, Cl.isInit] at h3 <;> rfl
      · rw [h3]; rfl
theorem weak_nq (l : List Cl) (st : Cl) : NQ (fun i => cat l i = .NSM) (weakS l st) (weakP l st) := marks_nq.weakR st

/-! ### N0 -/
theorem pst_nq {D : Nat → Prop} {l m : List Cl} (h : NQ D l m) {br : List Int} (hD : ∀ i, D i → nth br i = 0) : ∀ i, pst l br i = pst m br i
  | 0 => by rw [pst, pst, h.len]
  | i + 1 => by
    rw [pst, pst, ← pst_nq h hD i]
    unfold pstep
    rcases h.at_ i with e | ⟨e, _, _⟩
    · rw [e]
    · have := hD i e
      simp [this]
theorem prs_nq {D : Nat → Prop} {l m : List Cl} (h : NQ D l m) {br : List Int} (hD : ∀ i, D i → nth br i = 0) : prs l br = prs m br := by
  unfold prs; rw [← h.len, pst_nq h hD]
theorem stg_ni (c d : Cl) (hc : c.isNI = true) (hd : d.isNI = true) : stg c = stg d := by
  cases c <;> simp [Cl.isNI] at hc <;> cases d <;> simp [Cl.isNI] at hd <;> rfl
theorem NQ.ctx {D : Nat → Prop} {l m : List Cl} (h : NQ D l m) (st : Cl) : ∀ k, ctx l st k = ctx m st k
  | 0 => rfl
  | k + 1 => by rw [Go.Proofs.YtjahmnenfknjgaaGreatDoor.ctx, Go.Proofs.YtjahmnenfknjgaaGreatDoor.ctx, h.f stg stg_ni, NQ.ctx h st k]
theorem NQ.set {D : Nat → Prop} {l m : List Cl} (h : NQ D l m) (k : Nat) (x : Cl) : NQ D (l.set k x) (m.set k x) :=
  ⟨by simp [h.len], fun i => by
    by_cases hk : k < l.length
    · rw [cat_set hk, cat_set (by rw [← h.len]; exact hk)]
      split
      · left; rfl
      · exact h.at_ i
    · rw [List.set_eq_of_length_le (by omega), List.set_eq_of_length_le (by rw [← h.len]; omega)]; exact h.at_ i⟩
theorem NQ.fill {D : Nat → Prop} {ini ini' : List Cl} (hi : ∀ i, cat ini i = .NSM ↔ cat ini' i = .NSM) (t : Cl) : ∀ (f k : Nat) (l m : List Cl), NQ D l m → NQ D (fillN ini t f k l) (fillN ini' t f k m)
  | 0, _, _, _, h => h
  | f + 1, k, l, m, h => by
    rw [fillN, fillN, ← h.len]
    by_cases hc : k < l.length ∧ cat ini k = .NSM
    · rw [if_pos hc, if_pos ⟨hc.1, (hi k).1 hc.2⟩]; exact NQ.fill hi t f (k + 1) _ _ (h.set k t)
    · rw [if_neg hc, if_neg (fun x => hc ⟨x.1, (hi k).2 x.2⟩)]; exact h
theorem NQ.nset {D : Nat → Prop} {ini ini' l m : List Cl} (h : NQ D l m) (hi : ∀ i, cat ini i = .NSM ↔ cat ini' i = .NSM) (t : Cl) (k : Nat) : NQ D (nset ini t k l) (nset ini' t k m) := by
  unfold Go.Proofs.YtjahmnenfknjgaaGreatDoor.nset; rw [← h.len]; exact NQ.fill hi t _ _ _ _ (h.set k t)
theorem NQ.ins {D : Nat → Prop} {l m : List Cl} (h : NQ D l m) (a b : Nat) (way : Cl) : (InsSame l a b way ↔ InsSame m a b way) ∧ (InsOther l a b way ↔ InsOther m a b way) := by
  have hs := h.f stg stg_ni
  unfold InsSame InsOther
  simp only [hs]; exact ⟨trivial, trivial⟩
theorem NQ.nstep {D : Nat → Prop} {ini ini' l m : List Cl} (h : NQ D l m) (hi : ∀ i, cat ini i = .NSM ↔ cat ini' i = .NSM) (way st : Cl) (p : Nat × Nat) : NQ D (nstep ini way st l p) (nstep ini' way st m p) := by
  classical
  unfold Go.Proofs.YtjahmnenfknjgaaGreatDoor.nstep
  obtain ⟨h1, h2⟩ := h.ins p.1 p.2 way
  rw [h.ctx]
  rw [show (InsSame m p.1 p.2 way ↔ InsSame l p.1 p.2 way) from h1.symm, show (InsOther m p.1 p.2 way ↔ InsOther l p.1 p.2 way) from h2.symm]
  split
  · exact (h.nset hi _ _).nset hi _ _
  · exact h
theorem foldl_nq {D : Nat → Prop} {ini ini' : List Cl} (hi : ∀ i, cat ini i = .NSM ↔ cat ini' i = .NSM) (way st : Cl) : ∀ (ps : List (Nat × Nat)) (l m : List Cl), NQ D l m → NQ D (ps.foldl (nstep ini way st) l) (ps.foldl (nstep ini' way st) m)
  | [], _, _, h => h
  | p :: ps, l, m, h => foldl_nq hi way st ps _ _ (h.nstep hi way st p)
theorem brS_nq {D : Nat → Prop} {l m ini ini' : List Cl} (h : NQ D l m) {br : List Int} (hD : ∀ i, D i → nth br i = 0) (hi : ∀ i, cat ini i = .NSM ↔ cat ini' i = .NSM) (lv : Int) (st : Cl) : NQ D (brS l ini br lv st) (brS m ini' br lv st) := by
  unfold brS; rw [← prs_nq h hD]; exact foldl_nq hi _ _ _ _ _ h

/-! ### N1, N2 -/
theorem NQ.nb {D : Nat → Prop} {l m : List Cl} (h : NQ D l m) (so : Cl) : ∀ k, nb l so k = nb m so k
  | 0 => rfl
  | k + 1 => by
    rw [Go.Proofs.YtjahmnenfknjgaaGreatDoor.nb, Go.Proofs.YtjahmnenfknjgaaGreatDoor.nb, ← h.ni k, NQ.nb h so k]
    split
    · rfl
    · rename_i hc; rw [h.val (by simpa using hc)]
theorem NQ.na {D : Nat → Prop} {l m : List Cl} (h : NQ D l m) (eo : Cl) : ∀ t k, l.length ≤ k + t → na l eo k = na m eo k
  | 0, k, hk => by rw [na_end (by omega), na_end (by rw [← h.len]; omega)]
  | t + 1, k, hk => by
    by_cases hl : k < l.length
    · have hm : k < m.length := by rw [← h.len]; exact hl
      cases hc : (cat l k).isNI with
      | true => rw [na_ni hl hc, na_ni hm (by rw [← h.ni]; exact hc)]; exact NQ.na h eo t (k + 1) (by omega)
      | false => rw [na_not hl hc, na_not hm (by rw [← h.ni]; exact hc), h.val hc]
    · rw [na_end (by omega), na_end (by rw [← h.len]; omega)]
theorem neuS_nq {D : Nat → Prop} {l m : List Cl} (h : NQ D l m) (lv : Int) (so eo : Cl) : neuS l lv so eo = neuS m lv so eo := by
  unfold neuS; rw [← h.len]
  apply eq_lst (lst_length _ _)
  intro q hq
  rw [cat_lst hq]
  unfold n12
  rw [← h.ni q, h.nb, h.na eo l.length (q + 1) (by omega)]
  split
  · rfl
  · rename_i hc; exact h.val (by simpa using hc)
/-- The type behind the last place counts only where the last is neutral. -/
theorem na_eos {l : List Cl} {eo eo' : Cl} (h : (cat l (l.length - 1)).isNI = false) : ∀ t k, k < l.length → l.length ≤ k + t → na l eo k = na l eo' k
  | 0, k, h1, h2 => by omega
  | t + 1, k, h1, h2 => by
    cases hc : (cat l k).isNI with
    | true =>
      by_cases hk : k + 1 < l.length
      · rw [na_ni h1 hc, na_ni h1 hc]; exact na_eos h t (k + 1) hk (by omega)
      · rw [show l.length - 1 = k by omega, hc] at h; cases h
    | false => rw [na_not h1 hc, na_not h1 hc]
theorem neuS_eos {l : List Cl} {lv : Int} {so eo eo' : Cl} (h : (cat l (l.length - 1)).isNI = false) : neuS l lv so eo = neuS l lv so eo' := by
  unfold neuS
  apply eq_lst (lst_length _ _)
  intro q hq
  rw [cat_lst hq]
  unfold n12
  by_cases hl : q + 1 < l.length
  · rw [na_eos h l.length (q + 1) hl (by omega)]
  · have : (cat l q).isNI = false := by rw [show q = l.length - 1 by omega]; exact h
    rw [if_neg (by rw [this]; simp), if_neg (by rw [this]; simp)]
/-- Strong ones stay. -/
def Str (c : Cl) : Prop := c = .L ∨ c = .R
theorem w2_str {l : List Cl} {st : Cl} {j : Nat} (hj : j < l.length) (h : Str (cat l j)) : cat (w2L l st) j = cat l j := by
  unfold w2L; rw [cat_lst hj, w2, if_neg]; rintro ⟨e, _⟩; rw [e] at h; rcases h with h | h <;> cases h
theorem w3_str {l : List Cl} {j : Nat} (hj : j < l.length) (h : Str (cat l j)) : cat (w3L l) j = cat l j := by
  unfold w3L; rw [cat_lst hj, w3, if_neg]; intro e; rw [e] at h; rcases h with h | h <;> cases h
theorem w4_str {l : List Cl} {j : Nat} (hj : j < l.length) (h : Str (cat l j)) : cat (w4L l) j = cat l j := by
  unfold w4L; rw [cat_lst hj]
  cases j with
  | zero => rfl
  | succ j =>
    rw [w4, if_neg]
    rintro ⟨_, _, ⟨e, _⟩ | ⟨e, _⟩⟩ <;> (rw [e] at h; rcases h with h | h <;> cases h)
theorem w5_str {l : List Cl} {j : Nat} (hj : j < l.length) (h : Str (cat l j)) : cat (w5L l) j = cat l j := by
  unfold w5L; rw [cat_lst hj, w5, if_neg]; rintro ⟨e, _⟩; rw [e] at h; rcases h with h | h <;> cases h
theorem w6_str {l : List Cl} {j : Nat} (hj : j < l.length) (h : Str (cat l j)) : cat (w6L l) j = cat l j := by
  unfold w6L; rw [cat_lst hj, w6, if_neg]; rintro (e | e | e) <;> (rw [e] at h; rcases h with h | h <;> cases h)
theorem w7_str {l : List Cl} {st : Cl} {j : Nat} (hj : j < l.length) (h : Str (cat l j)) : cat (w7L l st) j = cat l j := by
  unfold w7L; rw [cat_lst hj, w7, if_neg]; rintro ⟨e, _⟩; rw [e] at h; rcases h with h | h <;> cases h
/-- Strong ones stay. -/
theorem weakR_str {l : List Cl} {st : Cl} {j : Nat} (hj : j < l.length) (h : Str (cat l j)) : cat (weakR l st) j = cat l j := by
  unfold weakR
  have e2 := w2_str (st := st) hj h
  have e3 := w3_str (l := w2L l st) (by rw [w2L_length]; exact hj) (by rw [e2]; exact h)
  have e4 := w4_str (l := w3L (w2L l st)) (by rw [w3L_length, w2L_length]; exact hj) (by rw [e3, e2]; exact h)
  have e5 := w5_str (l := w4L (w3L (w2L l st))) (by rw [w4L_length, w3L_length, w2L_length]; exact hj) (by rw [e4, e3, e2]; exact h)
  have e6 := w6_str (l := w5L (w4L (w3L (w2L l st)))) (by rw [w5L_length, w4L_length, w3L_length, w2L_length]; exact hj) (by rw [e5, e4, e3, e2]; exact h)
  have e7 := w7_str (l := w6L (w5L (w4L (w3L (w2L l st))))) (st := st) (by rw [w6L_length, w5L_length, w4L_length, w3L_length, w2L_length]; exact hj) (by rw [e6, e5, e4, e3, e2]; exact h)
  rw [e7, e6, e5, e4, e3, e2]
theorem weakS_str {l : List Cl} {st : Cl} {j : Nat} (hj : j < l.length) (h : Str (cat l j)) : cat (weakS l st) j = cat l j := by
  have hm : cat (marksS l st) j = cat l j := by
    unfold marksS; rw [cat_lst hj]
    have hn : cat l j ≠ .NSM := fun e => by rw [e] at h; rcases h with h | h <;> cases h
    cases j with
    | zero => rw [mkS, if_neg hn]
    | succ j => rw [mkS, if_neg hn]
  unfold weakS
  rw [weakR_str (by rw [marksS_length]; exact hj) (by rw [hm]; exact h), hm]
theorem fillN_keep {ini : List Cl} {t : Cl} {j : Nat} (hj : cat ini j ≠ .NSM) : ∀ (f k : Nat) (l : List Cl), cat (fillN ini t f k l) j = cat l j
  | 0, _, _ => rfl
  | f + 1, k, l => by
    rw [fillN]
    split
    · rename_i hc
      have hne : k ≠ j := fun e => hj (e ▸ hc.2)
      rw [fillN_keep hj f (k + 1), cat_set_ne hne]
    · rfl
theorem nset_keep {ini : List Cl} {t : Cl} {j k : Nat} (hj : cat ini j ≠ .NSM) (hk : k ≠ j) (l : List Cl) : cat (nset ini t k l) j = cat l j := by
  unfold nset; rw [fillN_keep hj, cat_set_ne hk]
theorem prs_on {l : List Cl} {br : List Int} {p : Nat × Nat} (h : p ∈ prs l br) : cat l p.1 = .ON ∧ cat l p.2 = .ON := by
  have key : ∀ i, (∀ s, s ∈ (pst l br i).stk → cat l s = .ON) ∧ ∀ q, 0 < nth (pst l br i).cl q → cat l q = .ON ∧ cat l (nth (pst l br i).cl q).toNat = .ON := by
    intro i
    induction i with
    | zero =>
      refine ⟨fun s hs => by simp [pst] at hs, fun q hq => ?_⟩
      by_cases hql : q < l.length
      · simp only [pst] at hq; rw [nth_replicate hql] at hq; omega
      · exfalso; simp [pst, nth, hql] at hq
    | succ i ih =>
      obtain ⟨ih1, ih2⟩ := ih
      rw [pst]; unfold pstep
      split
      · rename_i hon
        split
        · refine ⟨fun s hs => ?_, ih2⟩
          rcases List.mem_cons.1 hs with rfl | hs
          · exact hon
          · exact ih1 s hs
        split
        · split
          · rename_i a r hp
            obtain ⟨pre, hpre, _⟩ := popTo_sub hp
            refine ⟨fun s hs => ih1 s (by rw [hpre]; simp [show s ∈ r from hs]), fun q hq => ?_⟩
            simp only at hq ⊢
            have ha : a < (pst l br i).cl.length ∨ ¬ a < (pst l br i).cl.length := by omega
            by_cases hqa : a = q
            · subst hqa
              rcases ha with ha | ha
              · rw [nth_set_self ha]
                exact ⟨ih1 _ (by rw [hpre]; simp), by simpa using hon⟩
              · rw [List.set_eq_of_length_le (by omega)] at hq ⊢; exact ih2 _ hq
            · rw [nth_set_ne hqa] at hq ⊢; exact ih2 q hq
          · exact ⟨ih1, ih2⟩
        · exact ⟨ih1, ih2⟩
      · exact ⟨ih1, ih2⟩
  unfold prs prsOf at h
  obtain ⟨i, hi, he⟩ := List.mem_filterMap.1 h
  split at he
  · rename_i hpos
    injection he with he
    subst he
    exact (key l.length).2 i hpos
  · cases he
theorem brS_keep {l ini : List Cl} {br : List Int} {lv : Int} {st : Cl} {j : Nat} (hn : cat ini j ≠ .NSM) (ho : cat l j ≠ .ON) : cat (brS l ini br lv st) j = cat l j := by
  unfold brS
  have aux : ∀ (ps : List (Nat × Nat)) (m : List Cl), (∀ p, p ∈ ps → p.1 ≠ j ∧ p.2 ≠ j) → cat (ps.foldl (nstep ini (dirOf lv) st) m) j = cat m j := by
    intro ps
    induction ps with
    | nil => exact fun m _ => rfl
    | cons p ps ih =>
      intro m hp
      rw [List.foldl_cons, ih _ fun q hq => hp q (by simp [hq])]
      obtain ⟨h1, h2⟩ := hp p (by simp)
      unfold nstep
      split
      · rw [nset_keep hn h2, nset_keep hn h1]
      · rfl
  exact aux _ _ fun p hp => ⟨fun e => ho (e ▸ (prs_on hp).1), fun e => ho (e ▸ (prs_on hp).2)⟩
end Go.Proofs.YtjahmnenfknjgaaGreatDoor
