/- The package resolves as the set does; plain Lean. -/
import Derived.Test.YtjahmnenfknjgaaGreatDoorG22
import Derived.Test.YtjahmnenfknjgaaGreatDoorG6
import Derived.Test.YtjahmnenfknjgaaGreatDoorG24
import Derived.Test.YtjahmnenfknjgaaGreatDoorG14
import Derived.Test.YtjahmnenfknjgaaGreatDoorG11
import Derived.Deep.RegionHeld3
import Derived.Test.YtjahmnenfknjgaaGreatDoorG5
set_option linter.unusedVariables false
set_option linter.unusedSimpArgs false
namespace Go.Proofs.YtjahmnenfknjgaaGreatDoor

theorem xtop_lv {cs : List Cl} {base : Int} (hb : base = 0 ∨ base = 1) (i : Nat) : 0 ≤ (xtop cs base i).lv := by
  unfold xtop
  split
  · obtain ⟨e, r, _, ht, h1, _⟩ := (xs_ok cs hb i).end_.top; rw [ht]; omega
  · obtain ⟨e, r, _, ht, h1, _⟩ := (xs_ok cs hb i).top; rw [ht]; omega
theorem xlv_ge {cs : List Cl} {base : Int} (hb : base = 0 ∨ base = 1) {i : Nat} (h : (cat cs i).isRem = false) : 0 ≤ xlv cs base i := by
  unfold xlv
  rw [if_neg (by simp [h])]
  split
  · omega
  · exact xtop_lv hb i
theorem lvs_ok {cs : List Cl} {base : Int} (hb : base = 0 ∨ base = 1) (hB : ∀ i, i < cs.length → cat cs i = .B → i + 1 = cs.length) : LvOk cs (lvs cs base) := by
  have hk : ∀ q, q < cs.length → ((cat cs q).isRem = true ↔ nth (lvs cs base) q = -1) := fun q hq => by
    rw [nth_lvs hq]
    constructor
    · intro h; unfold xlv; rw [if_pos h]
    · intro h
      cases hr : (cat cs q).isRem with
      | true => rfl
      | false => have := xlv_ge (cs := cs) hb hr; omega
  refine ⟨lvs_length _ _, hk, fun i hil hi hp => ?_⟩
  obtain ⟨h1, h2⟩ := iso_between hb hB hi hp hil
  have hr : ∀ q, q < cs.length → nth (lvs cs base) q ≠ -1 → (cat cs q).isRem = false := fun q hq h => by
    cases e : (cat cs q).isRem with
    | false => rfl
    | true => exact absurd ((hk q hq).1 e) h
  rw [nth_lvs hp, nth_lvs hil]
  refine ⟨h1, ?_⟩
  rcases h2 with h2 | h2
  · left
    intro q h3 h4 h5
    have := h2 q h3 h4 (hr q (by omega) h5)
    rw [nth_lvs (by omega)]; exact this
  · right
    intro q h3 h4 h5
    have := h2 q h3 h4 (hr q (by omega) h5)
    rw [nth_lvs (by omega)]; exact this
theorem klv_plvs (cs : List Cl) (base : Int) : klv cs (plvs cs base) = lvs cs base := by
  apply ext_nth (by rw [klv_length, lvs_length])
  intro q hq
  rw [klv_length] at hq
  rw [nth_klv hq, nth_plvs hq, nth_lvs hq]
  unfold xlv xtop plv
  cases h : cat cs q <;> simp [Cl.isRem]
theorem plv_kept {cs : List Cl} {base : Int} {q : Nat} (hq : q < cs.length) (h : (cat cs q).isRem = false) : nth (plvs cs base) q = nth (lvs cs base) q := by
  rw [← klv_plvs, nth_klv hq, if_neg (by simp [h])]
theorem xov_some {cs : List Cl} {base : Int} (hb : base = 0 ∨ base = 1) (i : Nat) {c : Cl} (h : (xtop cs base i).ov = some c) : c = .L ∨ c = .R := by
  have key : ∀ s : XS, XOk base s → s.top.ov = some c → c = .L ∨ c = .R := fun s hs hc => by
    obtain ⟨e, r, h1, h2, _⟩ := hs.top
    rw [h2] at hc
    rcases hs.ov e (by rw [h1]; simp) with h3 | h3 | h3 <;> rw [h3] at hc
    · cases hc
    · injection hc with hc; exact .inl hc.symm
    · injection hc with hc; exact .inr hc.symm
  unfold xtop at h
  split at h
  · exact key _ (xs_ok cs hb i).end_ h
  · exact key _ (xs_ok cs hb i) h
/-- The classes behind X1 to X8: the class itself, or an override's. -/
theorem xty_cases {cs : List Cl} {base : Int} (hb : base = 0 ∨ base = 1) (i : Nat) : xty cs base i = cat cs i ∨ xty cs base i = .L ∨ xty cs base i = .R := by
  unfold xty
  split
  · exact .inl rfl
  split
  · rename_i h; exact .inl h.symm
  · cases h : (xtop cs base i).ov with
    | none => exact .inl rfl
    | some c => exact .inr (xov_some hb i h)
theorem pty_xty {cs : List Cl} {base : Int} {q : Nat} (hq : q < cs.length) (hC : ¬ ClosP cs base) (hr : (cat cs q).isRem = false) : cat (ptys cs base) q = cat (tys cs base) q := by
  rw [cat_ptys hq]
  by_cases hp : cat cs q = .PDI
  · rw [pty_pdi hp]
    by_cases he : cat (tys cs base) q = cat cs q
    · exact he.symm
    · exact absurd ⟨q, hq, .inl hp, he⟩ hC
  · rw [cat_tys hq]
    unfold pty xty xtop
    cases h : cat cs q <;> simp [h, Cl.isRem] at hr hp ⊢
theorem ty_nsm {cs : List Cl} {base : Int} (hb : base = 0 ∨ base = 1) {q : Nat} (hq : q < cs.length) (hC : ¬ ClosP cs base) : cat (tys cs base) q = .NSM ↔ cat cs q = .NSM := by
  constructor
  · intro h
    rw [cat_tys hq] at h
    rcases xty_cases (cs := cs) hb q with e | e | e
    · rw [← e]; exact h
    · rw [e] at h; cases h
    · rw [e] at h; cases h
  · intro h
    by_cases he : cat (tys cs base) q = cat cs q
    · rw [he, h]
    · exact absurd ⟨q, hq, .inr h, he⟩ hC
theorem cIni_length (T : List Cl) (pl : List Nat) : (cIni T pl).length = pl.length := by simp [cIni]
theorem cat_out {l : List Cl} {i : Nat} (h : l.length ≤ i) : cat l i = .ON := by simp [cat, List.getElem?_eq_none h]
theorem lastOf_nat {pl : List Nat} : nat pl (pl.length - 1) = lastOf pl := rfl
/-- One chain: both give the same. -/
theorem chain_eq {cs : List Cl} {br : List Int} {a : Int} (hb : a = 0 ∨ a = 1) (hB : ∀ i, i < cs.length → cat cs i = .B → i + 1 = cs.length) (hC : ¬ ClosP cs a) (nm : ∀ j, j < cs.length → nth br j ≠ 0 → cat cs j ≠ .NSM)
    {pl : List Nat} (hpl : pl ∈ chnsP cs (lvs cs a)) {T : List Cl} (hT : ∀ q, q ∈ pl → cat T q = cat (tys cs a) q) :
    (chnP cs (plvs cs a) (ptys cs a) a pl).lev = (chnOf cs (lvs cs a) a pl).lev ∧ pRes cs (ptys cs a) br (chnP cs (plvs cs a) (ptys cs a) a pl) = cRes T br (chnOf cs (lvs cs a) a pl) := by
  have hok := lvs_ok (cs := cs) hb hB
  have hm : pl ∈ joined cs (lvs cs a) := by rw [joined_eq hok]; exact hpl
  obtain ⟨hne, hin⟩ := joined_mem hm
  rw [lvs_length] at hin
  have hkept : ∀ q, q ∈ pl → q < cs.length ∧ (cat cs q).isRem = false := fun q hq => ⟨(hin q hq).1, by
    cases e : (cat cs q).isRem with
    | false => rfl
    | true => exact absurd ((hok.kept q (hin q hq).1).1 e) (hin q hq).2⟩
  have hf := hkept _ (first_mem hne)
  have hlv : (chnP cs (plvs cs a) (ptys cs a) a pl).lev = (chnOf cs (lvs cs a) a pl).lev := by
    unfold chnP chnOf; simp only; exact plv_kept hf.1 hf.2
  have hso : (chnP cs (plvs cs a) (ptys cs a) a pl).so = (chnOf cs (lvs cs a) a pl).so := by
    unfold chnP chnOf; simp only; rw [plv_kept hf.1 hf.2, klv_plvs, Int.max_comm]
  have hini : cIni T pl = cIni (ptys cs a) pl := by
    unfold cIni
    exact List.map_congr_left fun q hq => by rw [hT q hq, pty_xty (hkept q hq).1 hC (hkept q hq).2]
  have hll := lastOf_mem hne
  have hpos := List.length_pos_iff.2 hne
  refine ⟨hlv, ?_⟩
  unfold pRes cRes
  rw [hlv, hso]
  have hpl1 : (chnP cs (plvs cs a) (ptys cs a) a pl).pl = pl := rfl
  have hpl2 : (chnOf cs (lvs cs a) a pl).pl = pl := rfl
  rw [hpl1, hpl2, hini]
  generalize hlev : (chnOf cs (lvs cs a) a pl).lev = lev
  generalize hsoe : (chnOf cs (lvs cs a) a pl).so = so
  have hnsm : ∀ i, cat (cIni (ptys cs a) pl) i = .NSM ↔ cat (cIni cs pl) i = .NSM := fun i => by
    by_cases hi : i < pl.length
    · rw [cat_cIni hi, cat_cIni hi]
      have hk := hkept _ (nat_mem hi)
      rw [pty_xty hk.1 hC hk.2]; exact ty_nsm hb hk.1 hC
    · rw [cat_out (by rw [cIni_length]; omega), cat_out (by rw [cIni_length]; omega)]
  have hD : ∀ i, cat (cIni (ptys cs a) pl) i = .NSM → nth (pick br pl) i = 0 := fun i h => by
    by_cases hi : i < pl.length
    · have h2 := (hnsm i).1 h
      rw [cat_cIni hi] at h2
      have hk := hkept _ (nat_mem hi)
      have h3 : nth (pick br pl) i = nth br (nat pl i) := by simp [nth, pick, nat, hi]
      rw [h3]
      by_cases e : nth br (nat pl i) = 0
      · exact e
      · exact absurd h2 (nm _ hk.1 e)
    · rw [cat_out (by rw [cIni_length]; omega)] at h; cases h
  have hnq : NQ (fun i => cat (cIni (ptys cs a) pl) i = .NSM) (brS (weakS (cIni (ptys cs a) pl) so) (cIni (ptys cs a) pl) (pick br pl) lev so) (brS (weakP (cIni (ptys cs a) pl) so) (cIni cs pl) (pick br pl) lev so) :=
    brS_nq (weak_nq _ _) hD hnsm _ _
  rw [← neuS_nq hnq]
  -- the end's type
  by_cases heo : (chnP cs (plvs cs a) (ptys cs a) a pl).eo = (chnOf cs (lvs cs a) a pl).eo
  · rw [heo]
  · apply neuS_eos
    rw [brS_length, weakS_length, cIni_length]
    have hk := hkept _ hll
    have hstr : cat (ptys cs a) (lastOf pl) = .L ∨ cat (ptys cs a) (lastOf pl) = .R := by
      rw [cat_ptys hk.1]
      rcases pty_cases (cs := cs) (base := a) hb (lastOf pl) with e | e | e
      · exfalso
        apply heo
        unfold chnP chnOf elevP elev; simp only
        rw [plv_kept hf.1 hf.2, klv_plvs, cat_ptys hk.1, e, Int.max_comm]
        cases hi : (cat cs (lastOf pl)).isInit with
        | true =>
          have := chain_last hok hpl hi
          rw [nth_mt hk.1, mAt_init hi, this]; simp
        | false => simp
      · exact .inl e
      · exact .inr e
    have hci : cat (cIni (ptys cs a) pl) (pl.length - 1) = cat (ptys cs a) (lastOf pl) := by rw [cat_cIni (by omega)]; rfl
    have hstr' : Str (cat (cIni (ptys cs a) pl) (pl.length - 1)) := by rw [hci]; exact hstr
    have hw : cat (weakS (cIni (ptys cs a) pl) so) (pl.length - 1) = cat (cIni (ptys cs a) pl) (pl.length - 1) := weakS_str (by rw [cIni_length]; omega) hstr'
    rw [brS_keep (by intro e; rw [e] at hstr'; rcases hstr' with h | h <;> cases h) (by rw [hw]; intro e; rw [e] at hstr'; rcases hstr' with h | h <;> cases h), hw]
    rcases hstr' with h | h <;> rw [h] <;> rfl
theorem scC_agree {T T' : List Cl} {pl : List Nat} {r : List Cl} {q : Nat} (hl : T.length = T'.length) (h : cat T q = cat T' q) : ∀ k, cat (scC T pl r k) q = cat (scC T' pl r k) q
  | 0 => h
  | k + 1 => by
    unfold scC
    by_cases hk : nat pl k < T.length
    · rw [cat_set (by rw [scC_length]; exact hk), cat_set (by rw [scC_length, ← hl]; exact hk), scC_agree hl h k]
    · rw [List.set_eq_of_length_le (by rw [scC_length]; omega), List.set_eq_of_length_le (by rw [scC_length, ← hl]; omega)]; exact scC_agree hl h k
theorem scI_agree {T T' : List Int} {pl : List Nat} {r : List Int} {q : Nat} (hl : T.length = T'.length) (h : nth T q = nth T' q) : ∀ k, nth (scI T pl r k) q = nth (scI T' pl r k) q
  | 0 => h
  | k + 1 => by
    unfold scI
    by_cases hk : nat pl k < T.length
    · rw [nth_set (by rw [scI_length]; exact hk), nth_set (by rw [scI_length, ← hl]; exact hk), scI_agree hl h k]
    · rw [List.set_eq_of_length_le (by rw [scI_length]; omega), List.set_eq_of_length_le (by rw [scI_length, ← hl]; omega)]; exact scI_agree hl h k
theorem scC_away {T : List Cl} {pl : List Nat} {r : List Cl} {q : Nat} : ∀ k, k ≤ pl.length → q ∉ pl → cat (scC T pl r k) q = cat T q
  | 0, _, _ => rfl
  | k + 1, hk, h => by
    unfold scC
    rw [cat_set_ne (fun e => h (by rw [← e]; exact nat_mem (by omega)))]; exact scC_away k (by omega) h
/-- The whole paragraph. -/
theorem whole_eq {cs : List Cl} {br : List Int} {a : Int} (hb : a = 0 ∨ a = 1) (hB : ∀ i, i < cs.length → cat cs i = .B → i + 1 = cs.length) (hC : ¬ ClosP cs a) (nm : ∀ j, j < cs.length → nth br j ≠ 0 → cat cs j ≠ .NSM) :
    ∀ q, q < cs.length → (cat cs q).isRem = false → cat (wholeP cs br a).1 q = cat (resolved cs br a).1 q ∧ nth (wholeP cs br a).2 q = nth (resolved cs br a).2 q := by
  intro q hq hr
  have hok := lvs_ok (cs := cs) hb hB
  unfold wholeP resolved prun rsv chains
  rw [klv_plvs, joined_eq hok]
  have hnd : (chnsP cs (lvs cs a)).flatten.Nodup := by rw [← joined_eq hok]; exact joined_nodup _ _
  have key : ∀ (pls : List (List Nat)), (∀ pl, pl ∈ pls → pl ∈ chnsP cs (lvs cs a)) → pls.flatten.Nodup → ∀ (s s' : List Cl × List Int), s.1.length = cs.length → s'.1.length = cs.length → s.2.length = cs.length → s'.2.length = cs.length →
      cat s.1 q = cat s'.1 q → nth s.2 q = nth s'.2 q → (∀ x, x ∈ pls.flatten → cat s'.1 x = cat (tys cs a) x) →
      cat ((pls.map (chnP cs (plvs cs a) (ptys cs a) a)).foldl (pstp cs (ptys cs a) br) s).1 q = cat ((pls.map (chnOf cs (lvs cs a) a)).foldl (rstp br) s').1 q ∧
      nth ((pls.map (chnP cs (plvs cs a) (ptys cs a) a)).foldl (pstp cs (ptys cs a) br) s).2 q = nth ((pls.map (chnOf cs (lvs cs a) a)).foldl (rstp br) s').2 q := by
    intro pls
    induction pls with
    | nil => intro _ _ s s' _ _ _ _ h1 h2 _; exact ⟨h1, h2⟩
    | cons pl pls ih =>
      intro hm hnd s s' l1 l2 l3 l4 h1 h2 h3
      rw [List.flatten_cons, List.nodup_append] at hnd
      obtain ⟨n1, n2, n3⟩ := hnd
      obtain ⟨e1, e2⟩ := chain_eq hb hB hC nm (hm pl (by simp)) (T := s'.1) fun x hx => h3 x (by simp [hx])
      simp only [List.map_cons, List.foldl_cons]
      have p1 : (chnP cs (plvs cs a) (ptys cs a) a pl).pl = pl := rfl
      have p2 : (chnOf cs (lvs cs a) a pl).pl = pl := rfl
      refine ih (fun x hx => hm x (by simp [hx])) n2 _ _ ?_ ?_ ?_ ?_ ?_ ?_ ?_
      · simp only [pstp, scC_length]; exact l1
      · simp only [rstp, scC_length]; exact l2
      · simp only [pstp, scI_length]; exact l3
      · simp only [rstp, scI_length]; exact l4
      · simp only [pstp, rstp]
        rw [e2, p1, p2]; exact scC_agree (by rw [l1, l2]) h1 _
      · simp only [pstp, rstp]
        rw [e2, e1, p1, p2]; exact scI_agree (by rw [l3, l4]) h2 _
      · intro x hx
        simp only [rstp]
        rw [p2, scC_away _ (Nat.le_refl _) (fun hxp => n3 x hxp x hx rfl)]
        exact h3 x (by simp only [List.flatten_cons, List.mem_append]; exact .inr hx)
  refine key _ (fun _ h => h) hnd _ _ (ptys_length _ _) (tys_length _ _) (plvs_length _ _) (lvs_length _ _) (pty_xty hq hC hr) (plv_kept hq hr) fun _ _ => rfl
end Go.Proofs.YtjahmnenfknjgaaGreatDoor
namespace Go.Proofs.YtjahmnenfknjgaaGreatDoor
open Go.RowKit

/-- What the statements ask of a paragraph with its brackets. -/
structure PGd (cs : List Cl) (ks vs : List Int) (emb : Int) : Prop where
  n0 : 0 < cs.length
  hm : cs.length ≤ 2147483647
  hB : ∀ i, i < cs.length → cat cs i = .B → i + 1 = cs.length
  em : emb = -1 ∨ emb = 0 ∨ emb = 1
  kn : ks.length = cs.length
  vn : vs.length = cs.length
  kO : ∀ j, j < cs.length → nth ks j = 0 ∨ nth ks j = 1 ∨ nth ks j = 2
  vO : ∀ j, j < cs.length → nth ks j ≠ 0 → 0 < nth vs j
  nm : ∀ j, j < cs.length → nth ks j ≠ 0 → cat cs j ≠ .NSM
  op : opc (signed ks vs) cs.length ≤ 63
/-- A paragraph resolved, at block b. -/
def ParD (cs : List Cl) (ks vs : List Int) (emb : Int) (B : Nat) (b : Nat) (w : World) : Prop :=
  ∃ g0 k0 gT kT gL kL gm gs, ∃ pt pv : Value, B ≤ b ∧ B ≤ g0 ∧ B ≤ gT ∧ B ≤ gL ∧
      Par w b (.slice (some ⟨g0, 0, none⟩) cs.length k0) pt pv (lvAt cs emb) (.slice (some ⟨gT, 0, none⟩) cs.length kT) (.slice (some ⟨gL, 0, none⟩) cs.length kL) (.slice (some ⟨gm, 0, none⟩) cs.length cs.length) (.slice (some ⟨gs, 0, none⟩) cs.length cs.length) ∧
      Row w g0 77 (clsU cs) ∧ Row w gT 77 (clsU (ownTs cs (wholeP cs (signed ks vs) (lvAt cs emb)).1)) ∧ Row w gL 112 (nums .i8 (lents cs (wholeP cs (signed ks vs) (lvAt cs emb)).2 (lvAt cs emb)))
theorem Rd.fresh {S : List Nat} {w w1 w2 : World} {A : Option Addr} {vs : List Value} (h : Rd w A vs) (hu : Upd [] w w1) (hu2 : Upd S w1 w2) (hS : ∀ t, t ∈ S → w.heap.size ≤ t) : Rd w2 A vs := fun j hj => by
  obtain ⟨g, o, e, hc⟩ := h j hj
  have hlt := World.block_lt_of_cell? w _ hc
  exact ⟨g, o, e, hu2.cell (hu.cell hc (by simp)) (fun hm => by have := hS _ hm; exact absurd hlt (by omega))⟩

set_option maxHeartbeats 16000000 in
set_option maxRecDepth 100000 in
theorem newPar_any (gx c gk kc gv vc : Nat) (emb : Int) (cs : List Cl) (ks vs : List Int) (w : World) (hG : PGd cs ks vs emb)
    (hr : Row w gx 77 (clsU cs)) (hk : Row w gk 135 (nums .u8 ks)) (hv : Row w gv 21 (nums .i32 vs)) (hc : cs.length ≤ c) :
    Calls Tryz.prog 79 #[.slice (some ⟨gx, 0, none⟩) cs.length c, .slice (some ⟨gk, 0, none⟩) cs.length kc, .slice (some ⟨gv, 0, none⟩) cs.length vc, .int .i8 emb] w fun e w' => ∃ b, e = .returned (.tuple #[.pointer (some ⟨b, 0, none⟩), Value.nilIface]) ∧ ParD cs ks vs emb w.heap.size b w' ∧ Upd [] w w' := by
  obtain ⟨i0, hi', hz0, hz1, hz2⟩ := info_parts info77
  have hm := hG.hm
  have C1 := okTypes_any gx c cs w hr hG.n0 hc hG.hB hm
  have C2 := okKinds_any (some ⟨gk, 0, none⟩) kc ks w (Rd.of_row hk) (by rw [hG.kn]; exact hG.n0) (fun j hj => hG.kO j (by rw [← hG.kn]; exact hj)) (by rw [hG.kn]; exact hm)
  rw [hG.kn] at C2
  have C3 := okValues_any gv 0 cs.length vc kc (some ⟨gk, 0, none⟩) w
  have C4 := okLevel_any emb w hG.em
  have HK := Lib.hid (Rd.of_row hk)
  have HV := Lib.hid (Rd.of_row hv)
  have HG := Lib.hid hG
  have hn0 := hG.n0
  have HRUN : Hid (∀ (b g0 k0 gT kT : Nat) W, Upd [] w W → w.heap.size ≤ b → w.heap.size ≤ g0 → w.heap.size ≤ gT → g0 ≠ gT →
      Par W b (.slice (some ⟨g0, 0, none⟩) cs.length k0) (.slice (some ⟨gk, 0, none⟩) cs.length kc) (.slice (some ⟨gv, 0, none⟩) cs.length vc) emb (.slice (some ⟨gT, 0, none⟩) cs.length kT) (.slice none 0 0) (.slice none 0 0) (.slice none 0 0) →
      Row W g0 77 (clsU cs) → Row W gT 77 (clsU cs) → Calls Tryz.prog 99 #[.pointer (some ⟨b, 0, none⟩)] W fun e w' => e = .returned (.tuple #[]) ∧ ParD cs ks vs emb w.heap.size b w' ∧ Upd [] w w') := by
    intro b g0 k0 gT kT W hW hb hg0 hgT hne hp h0 hT
    refine (run_any b g0 k0 gT kT kc vc _ _ emb cs ks vs W hp h0 hT hne (fun W2 hW2 => ⟨HK.out.fresh hW hW2 ?_, HV.out.fresh hW hW2 ?_⟩) hG.n0 hG.hB hG.em hG.kn hG.vn hm hG.kO hG.vO hG.nm hG.op).mono ?_
    · intro t ht; simp at ht; rcases ht with rfl | rfl <;> assumption
    · intro t ht; simp at ht; rcases ht with rfl | rfl <;> assumption
    · rintro e w' ⟨he, gL, kL, gm, gs, hgL, p1, p2, p3, p4, hu⟩
      refine ⟨he, ⟨g0, k0, gT, kT, gL, kL, gm, gs, _, _, hb, hg0, hgT, Nat.le_trans hW.size hgL, p1, p2, p3, p4⟩, hW.step hu fun t ht => .inr (by simp at ht; rcases ht with rfl | rfl <;> assumption)⟩
  clear hG hk hv hc
  go_enter Tryz.func79, Tryz.ntmps79
  go_wp2_with (first
    | (go_at_call 95; refine C1.mono ?_; rintro e w' ⟨rfl, rfl⟩)
    | (go_at_call 96; refine C2.mono ?_; rintro e w' ⟨rfl, rfl⟩)
    | (go_at_call 97; refine C3.mono ?_; rintro e w' ⟨rfl, rfl⟩)
    | (go_at_call 98; refine C4.mono ?_; rintro e w' ⟨rfl, rfl⟩)
    | (at_builtin; refine wpList_append_nil _ rfl (.const (.slice none 0 0)) (.tmp 33) 58 rfl 77 i0 (.int .u64 0) 1 8 Tryz.underlying58 hi' hz0 hz1 hz2 rfl (by decide) rfl ⟨gx, 0, none⟩ cs.length c (clsU cs) rfl (by rw [clsU_length]; simp) hr.at_addr (clsU_one cs) hn0 (by unfold maxLen; omega) (by omega) ?_; intro g2 c2 w2 hown2 hgrow2; have hu2 : Upd [] w w2 := (Upd.refl [] w).grown0 hgrow2; have hr2 := hr.upd hu2 (by simp))
    | (at_builtin; go_must (refine wpList_append_nil _ rfl (.const (.slice none 0 0)) (.tmp 38) 58 rfl 77 i0 (.int .u64 0) 1 8 Tryz.underlying58 hi' hz0 hz1 hz2 rfl (by decide) rfl ⟨gx, 0, none⟩ cs.length c (clsU cs) rfl (by rw [clsU_length]; simp) hr2.at_addr (clsU_one cs) hn0 (by unfold maxLen; omega) (by omega) ?_; intro g3 c3 w3 hown3 hgrow3; have hu3 : Upd [] w2 w3 := (Upd.refl [] w2).grown0 hgrow3; have hl2 := hown2.lt g2 rfl; have hl3 := hown3.lt g3 rfl; have hsz2 := hu2.size; have hsz3 := hu3.size; have HRN := HRUN.out w3.heap.size g2 c2 g3 c3 (w3.alloc (.cells [.slice (some ⟨g2, 0, none⟩) cs.length c2, .slice (some ⟨gk, 0, none⟩) cs.length kc, .slice (some ⟨gv, 0, none⟩) cs.length vc, .int .i8 emb, .slice (some ⟨g3, 0, none⟩) cs.length c3, .slice none 0 0, .slice none 0 0, .slice none 0 0].toArray 115)) ((hu2.trans hu3).alloc _) (by omega) (by omega) (by omega) (by omega) (by exact Row.new w3 115 (parCells (.slice (some ⟨g2, 0, none⟩) cs.length c2) (.slice (some ⟨gk, 0, none⟩) cs.length kc) (.slice (some ⟨gv, 0, none⟩) cs.length vc) emb (.slice (some ⟨g3, 0, none⟩) cs.length c3) (.slice none 0 0) (.slice none 0 0) (.slice none 0 0))) (((Row.of_owns hown2).upd hu3 (by simp)).alloc _) ((Row.of_owns hown3).alloc _)))
    | (go_at_call 99; go_must (refine HRN.mono ?_; rintro e w5 ⟨rfl, hp5, hu5⟩)))
  go_ret2
  exact ⟨_, rfl, hp5, hu5⟩
end Go.Proofs.YtjahmnenfknjgaaGreatDoor
namespace Go.Proofs.YtjahmnenfknjgaaGreatDoor
open Go.RowKit

theorem nums_one' (k : IntKind) (l : List Int) : ∀ u ∈ nums k l, u.oneCell' = true := by
  intro u hu
  simp only [nums, List.mem_map] at hu
  obtain ⟨c, _, rfl⟩ := hu
  rfl

end Go.Proofs.YtjahmnenfknjgaaGreatDoor
namespace Go.Proofs.YtjahmnenfknjgaaGreatDoor
open Go.RowKit

theorem ilv_le {level : Int} (c : Cl) : ilv level c ≤ level + 2 := by
  unfold ilv; split <;> first | omega | (split <;> omega)
theorem pst0_range {cs T0 : List Cl} {V0 br : List Int} {base : Int} {pls : List (List Nat)} (P : Nat → Prop) (hV : ∀ q, P q → 0 ≤ nth V0 q ∧ nth V0 q ≤ 127) (hl : ∀ pl, pl ∈ pls → 0 ≤ (chnP cs V0 T0 base pl).lev ∧ (chnP cs V0 T0 base pl).lev ≤ 125) : ∀ j, j ≤ pls.length → ∀ q, P q → 0 ≤ nth (pst0 cs T0 V0 br base pls j).2 q ∧ nth (pst0 cs T0 V0 br base pls j).2 q ≤ 127
  | 0, _, q, hq => hV q hq
  | j + 1, h, q, hq => by
    have ih := pst0_range (br := br) P hV hl j (by omega) q hq
    rw [pst0_succ (by omega)]
    unfold pstp
    have hlj := hl pls[j] (List.getElem_mem _)
    refine scI_keep (fun x => 0 ≤ x ∧ x ≤ 127) _ (fun t ht => ?_) q ih
    by_cases htl : t < (pRes cs T0 br (chnP cs V0 T0 base pls[j])).length
    · rw [nth_impS htl]
      have h1 := ilv_ge (level := (chnP cs V0 T0 base pls[j]).lev) (cat (pRes cs T0 br (chnP cs V0 T0 base pls[j])) t)
      have h2 := ilv_le (level := (chnP cs V0 T0 base pls[j]).lev) (cat (pRes cs T0 br (chnP cs V0 T0 base pls[j])) t)
      omega
    · have : nth (impS (pRes cs T0 br (chnP cs V0 T0 base pls[j])) (chnP cs V0 T0 base pls[j]).lev) t = 0 := by
        unfold nth; rw [List.getD_eq_getElem?_getD, List.getElem?_eq_none (by rw [impS_length]; omega)]; rfl
      rw [this]; omega
theorem wholeP_range {cs : List Cl} {br : List Int} {a : Int} (ha : a = 0 ∨ a = 1) (q : Nat) (hq : q < cs.length) (hr : (cat cs q).isRem = false) : 0 ≤ nth (wholeP cs br a).2 q ∧ nth (wholeP cs br a).2 q ≤ 127 := by
  have h := pst0_range (cs := cs) (T0 := ptys cs a) (V0 := plvs cs a) (br := br) (base := a) (pls := chnsP cs (klv cs (plvs cs a))) (fun q => q < cs.length ∧ (cat cs q).isRem = false)
    (fun q hq => by rw [nth_plvs hq.1]; have := plv_range (cs := cs) ha q; omega)
    (fun pl hpl => by
      obtain ⟨m1, m2, m3, m4⟩ := chn_mem (fun q hq _ => by rw [nth_plvs hq]; exact (plv_range ha q).1) hpl
      have hm := m3 _ (nat_mem (List.length_pos_iff.2 m2))
      show 0 ≤ nth (plvs cs a) _ ∧ nth (plvs cs a) _ ≤ 125
      rw [nth_plvs hm.1]; exact plv_range ha _) _ (Nat.le_refl _) q ⟨hq, hr⟩
  rw [pst0_end] at h
  exact h
theorem lent_range {cs : List Cl} {V : List Int} {a : Int} (ha : a = 0 ∨ a = 1) (hV : ∀ q, q < cs.length → (cat cs q).isRem = false → 0 ≤ nth V q ∧ nth V q ≤ 127) : ∀ q, q < cs.length → 0 ≤ lent cs V a q ∧ lent cs V a q ≤ 127
  | 0, h => by
    unfold lent
    cases e : (cat cs 0).isRem with
    | true => simp; omega
    | false =>
      have := hV 0 h e
      simpa using this
  | q + 1, h => by
    have ih := lent_range ha hV q (by omega)
    unfold lent
    cases e : (cat cs (q + 1)).isRem with
    | true => simpa using ih
    | false =>
      have := hV (q + 1) h e
      simpa using this
theorem lvAt_range {cs : List Cl} {emb : Int} (h : emb = -1 ∨ emb = 0 ∨ emb = 1) : lvAt cs emb = 0 ∨ lvAt cs emb = 1 := by
  unfold lvAt; split
  · exact fsLev_range _ _ _
  · omega

end Go.Proofs.YtjahmnenfknjgaaGreatDoor
namespace Go.Proofs.YtjahmnenfknjgaaGreatDoor

theorem par_cls {ts : List Int} (h : ParP ts) : ∃ cs : List Cl, ts = clsI cs ∧ 0 < cs.length ∧ ∀ i, i < cs.length → cat cs i = .B → i + 1 = cs.length := by
  have hc : ∀ j, j < ts.length → cat (ts.map Cl.of1) j = Cl.of1 (nth ts j) := fun j hj => by
    simp [cat, nth, hj]
  refine ⟨ts.map Cl.of1, ?_, by simpa using h.1, fun i hi hcb => ?_⟩
  · apply ext_nth
    · simp [clsI]
    · intro j hj
      have hb := h.2 j hj
      rw [nth_clsI (by simpa using hj), hc j hj, Cl.e1_of1 hb.1 hb.2.1]
  · have hi' : i < ts.length := by simpa using hi
    have hb := h.2 i hi'
    rw [hc i hi'] at hcb
    have h2 := Cl.e1_of1 hb.1 hb.2.1
    rw [hcb] at h2
    have := hb.2.2 h2.symm
    simpa using this
theorem opc_signed {ks vs : List Int} (hv : ∀ j, j < ks.length → nth ks j = 2 → 0 ≤ nth vs j) : ∀ n, n ≤ ks.length → opc (signed ks vs) n ≤ ((ks.take n).filter fun k => k == 1).length
  | 0, _ => by simp [opc]
  | n + 1, h => by
    have ih := opc_signed hv n (by omega)
    rw [opc_succ]
    have ht : ks.take (n + 1) = ks.take n ++ [nth ks n] := by rw [List.take_add_one, List.getElem?_eq_getElem (by omega)]; simp [nth, show n < ks.length by omega]
    rw [ht, List.filter_append, List.length_append, nth_signed (by omega)]
    by_cases h1 : nth ks n = 1
    · simp only [h1, if_true]; simp; split <;> omega
    · rw [if_neg h1]
      by_cases h2 : nth ks n = 2
      · have := hv n (by omega) h2
        rw [if_pos h2, if_neg (by omega)]; omega
      · rw [if_neg h2, if_neg (by omega)]; omega
/-- What a case asks, in the package's words. -/
theorem case_guards {cs : List Cl} {ks vs : List Int} {base : Int} (h : CaseP (clsI cs) ks vs base) (hB : ∀ i, i < cs.length → cat cs i = .B → i + 1 = cs.length) (h0 : 0 < cs.length) (hm : cs.length ≤ 2147483647) : PGd cs ks vs base := by
  obtain ⟨_, ⟨b1, b2, b3⟩, b4, b5, b6, b7⟩ := h
  rw [clsI_length] at b1 b2 b3
  refine ⟨h0, hm, hB, by omega, b1, b2, fun j hj => ?_, fun j hj hk => ?_, fun j hj hk => ?_, ?_⟩
  · have := b3 j hj; omega
  · have := b3 j hj; have := this.2.2.2 (by omega); omega
  · intro hc
    apply b4
    have := b3 j hj
    exact ⟨j, by omega, by omega, by rw [nth_clsI hj, hc]; rfl⟩
  · have := opc_signed (ks := ks) (vs := vs) (fun j hj h2 => by have := b3 j (by omega); have := this.2.2.2 (by omega); omega) ks.length (Nat.le_refl _)
    rw [List.take_length] at this
    unfold openings at b5
    rw [← b1]; omega
theorem lvAt_base {cs : List Cl} {base : Int} (h : base = -1 ∨ base = 0 ∨ base = 1) : lvAt cs base = baseOf cs base := by
  unfold lvAt baseOf
  rcases h with h | h | h <;> simp [h]
theorem scI_away {V : List Int} {pl : List Nat} {r : List Int} {q : Nat} : ∀ k, k ≤ pl.length → q ∉ pl → nth (scI V pl r k) q = nth V q
  | 0, _, _ => rfl
  | k + 1, hk, h => by
    unfold scI
    rw [nth_set_ne (fun e => h (by rw [← e]; exact nat_mem (by omega)))]; exact scI_away k (by omega) h
/-- Places that X9 removes stay at -1 in the set's levels. -/
theorem resolved_rem {cs : List Cl} {br : List Int} {a : Int} {q : Nat} (h : nth (lvs cs a) q = -1) : nth (resolved cs br a).2 q = -1 := by
  unfold resolved rsv chains
  have key : ∀ (l : List (List Nat)) (s : List Cl × List Int), (∀ pl, pl ∈ l → q ∉ pl) → nth ((l.map (chnOf cs (lvs cs a) a)).foldl (rstp br) s).2 q = nth s.2 q := by
    intro l
    induction l with
    | nil => exact fun s _ => rfl
    | cons pl l ih =>
      intro s hs
      rw [List.map_cons, List.foldl_cons, ih _ fun x hx => hs x (by simp [hx])]
      exact scI_away _ (Nat.le_refl _) (hs pl (by simp))
  rw [key _ _ fun pl hpl hq => ((joined_mem hpl).2 q hq).2 h]; exact h
theorem lent_kept {cs : List Cl} {V : List Int} {base : Int} : ∀ {i : Nat}, (cat cs i).isRem = false → lent cs V base i = nth V i
  | 0, h => by rw [lent, if_neg (by simp [h])]
  | i + 1, h => by rw [lent, if_neg (by simp [h])]
theorem nsm_guard {cs : List Cl} {ks vs : List Int} {base : Int} (hG : PGd cs ks vs base) : ∀ j, j < cs.length → nth (signed ks vs) j ≠ 0 → cat cs j ≠ .NSM := fun j hj hn => by
  rw [nth_signed (by rw [hG.kn]; exact hj)] at hn
  refine hG.nm j hj fun h => hn ?_
  rw [h]; simp
theorem whole_length {cs : List Cl} {br : List Int} {a : Int} : (wholeP cs br a).1.length = cs.length ∧ (wholeP cs br a).2.length = cs.length := by
  have := pst0_length cs (ptys cs a) (plvs cs a) br a (chnsP cs (klv cs (plvs cs a))) _ (Nat.le_refl _)
  rw [pst0_end, ptys_length, plvs_length] at this
  exact this
theorem resolved_length {cs : List Cl} {br : List Int} {a : Int} : (resolved cs br a).1.length = cs.length ∧ (resolved cs br a).2.length = cs.length := by
  unfold resolved
  have := rsv_length br (chains cs (lvs cs a) a) (tys cs a, lvs cs a)
  rw [tys_length, lvs_length] at this
  exact this
end Go.Proofs.YtjahmnenfknjgaaGreatDoor
