/- The five rules of one sequence, one call behind the other. -/
import Derived.Test.YtjahmnenfknjgaaGreatDoorG22
import Derived.Test.YtjahmnenfknjgaaGreatDoorG11
import Derived.Test.YtjahmnenfknjgaaGreatDoorG10
import Derived.Test.YtjahmnenfknjgaaGreatDoorG23
import Derived.Test.YtjahmnenfknjgaaGreatDoorG8
import Derived.Test.YtjahmnenfknjgaaGreatDoorG9
import Derived.Deep.RegionHeld3
import Derived.Deep.DeepCutAuto
set_option linter.unusedVariables false
set_option linter.unusedSimpArgs false
namespace Go.Proofs.YtjahmnenfknjgaaGreatDoor
open Go.RowKit

/-- The calls of a round, each from a world that the one before it left. -/
def Chain5 (q : Nat) (w : World) (F5 : World → Prop) : Prop :=
  ∃ F1 F2 F3 F4 : World → Prop,
    (Calls Tryz.prog 85 #[.pointer (some ⟨q, 0, none⟩)] w fun e w' => e = .returned (.tuple #[]) ∧ F1 w') ∧
    (∀ w1, F1 w1 → Calls Tryz.prog 86 #[.pointer (some ⟨q, 0, none⟩)] w1 fun e w' => e = .returned (.tuple #[]) ∧ F2 w') ∧
    (∀ w1, F2 w1 → Calls Tryz.prog 87 #[.pointer (some ⟨q, 0, none⟩)] w1 fun e w' => e = .returned (.tuple #[]) ∧ F3 w') ∧
    (∀ w1, F3 w1 → Calls Tryz.prog 88 #[.pointer (some ⟨q, 0, none⟩)] w1 fun e w' => e = .returned (.tuple #[]) ∧ F4 w') ∧
    (∀ w1, F4 w1 → Calls Tryz.prog 122 #[.pointer (some ⟨q, 0, none⟩)] w1 fun e w' => e = .returned (.tuple #[]) ∧ F5 w')

theorem chain5 {b g0 k0 gT kT gL kL kc vc : Nat} {kA vA : Option Addr} {mm ss : Value} {base bl : Int} {cs T0 T : List Cl} {V0 V ks vs : List Int} {B : Nat} {r : CR} {w : World}
    (hok : r.Ok w B b cs T0 V0 base)
    (hp : Par w b (.slice (some ⟨g0, 0, none⟩) cs.length k0) (.slice kA cs.length kc) (.slice vA cs.length vc) bl (.slice (some ⟨gT, 0, none⟩) cs.length kT) (.slice (some ⟨gL, 0, none⟩) cs.length kL) mm ss)
    (h0 : Row w g0 77 (clsU cs)) (hT : Row w gT 77 (clsU T)) (hV : Row w gL 112 (nums .i8 V)) (hTl : T.length = cs.length) (hVl : V.length = cs.length)
    (hKV : ∀ W, Upd [r.gt, r.q] w W → Rd W kA (nums .u8 ks) ∧ Rd W vA (nums .i32 vs))
    (hkn : ks.length = cs.length) (hvn : vs.length = cs.length) (hm : cs.length ≤ 2147483647)
    (hks : ∀ j, j < cs.length → nth ks j = 0 ∨ nth ks j = 1 ∨ nth ks j = 2) (hvs : ∀ j, j < cs.length → nth ks j ≠ 0 → 0 < nth vs j) (hmk : ∀ j, j < cs.length → nth ks j ≠ 0 → cat cs j ≠ .NSM) (hop : opc (signed ks vs) cs.length ≤ 63)
    (hup : Up r.pl) (hne : r.pl ≠ []) (hin : ∀ x, x ∈ r.pl → x < cs.length ∧ (cat cs x).isRem = false) (hlen : r.pl.length ≤ cs.length)
    (hT0 : ∀ x, x < cs.length → (cat cs x).isRem = false → (cat T0 x).p0 = true) (hV0 : ∀ x, x < cs.length → (cat cs x).isRem = false → 0 ≤ nth V0 x ∧ nth V0 x ≤ 125)
    (h0g : g0 ≠ r.gt) (hTg : gT ≠ r.gt) :
    Chain5 r.q w fun w' => Row w' gT 77 (clsU (scC T r.pl (pRes cs T0 (signed ks vs) (chnP cs V0 T0 base r.pl)) r.pl.length)) ∧
      Row w' gL 112 (nums .i8 (scI V r.pl (impS (pRes cs T0 (signed ks vs) (chnP cs V0 T0 base r.pl)) (chnP cs V0 T0 base r.pl).lev) r.pl.length)) ∧ Upd [gT, gL, r.gt, r.q] w w' := by
  obtain ⟨hsq, hgi, hgt, hBq, hBt, hBi⟩ := hok
  obtain ⟨c, hc⟩ : ∃ c, c = chnP cs V0 T0 base r.pl := ⟨_, rfl⟩
  have hcpl : c.pl = r.pl := by rw [hc]; rfl
  have hfirst : nat r.pl 0 ∈ r.pl := nat_mem (List.length_pos_iff.2 hne)
  have hlev := hV0 _ (hin _ hfirst).1 (hin _ hfirst).2
  have hclev : c.lev = nth V0 (nat r.pl 0) := by rw [hc]; rfl
  rw [← hclev] at hlev
  have hso : c.so = .L ∨ c.so = .R := by rw [hc]; exact dirOf_strong _
  have heo : c.eo = .L ∨ c.eo = .R := by rw [hc]; exact dirOf_strong _
  rw [← hc] at hsq ⊢
  obtain ⟨D, hD⟩ : ∃ D : QB, D = ⟨r.q, r.gt, r.pl.length, r.pl.length, some ⟨r.gi, 0, none⟩, r.ic, .pointer (some ⟨b, 0, none⟩), .slice none 0 0, c.lev, c.so, c.eo⟩ := ⟨_, rfl⟩
  have hl0 : AllC Cl.p0 (cIni T0 r.pl) := fun j hj => by
    have hj' : j < r.pl.length := by simpa [cIni] using hj
    rw [cat_cIni hj']
    have := hin _ (nat_mem hj')
    exact hT0 _ this.1 this.2
  have hb_gt : b ≠ r.gt := Row.ne_type hp hgt (by decide)
  have hgi_gt : r.gi ≠ r.gt := hgi.ne_type hgt (by decide)
  have hgL_gt : gL ≠ r.gt := hV.ne_type hgt (by decide)
  have hq_gt : r.q ≠ r.gt := Row.ne_type hsq hgt (by decide)
  have hb_q : b ≠ r.q := Row.ne_type hp hsq (by decide)
  have hg0_q : g0 ≠ r.q := h0.ne_type hsq (by decide)
  have hgT_q : gT ≠ r.q := hT.ne_type hsq (by decide)
  have hgL_q : gL ≠ r.q := hV.ne_type hsq (by decide)
  have hgi_q : r.gi ≠ r.q := hgi.ne_type hsq (by decide)
  have hX0 : QF D w w (cIni T0 r.pl) := by subst hD; exact ⟨hsq, hgt, Upd.refl _ _, by simp [cIni]⟩
  obtain ⟨l1, hl1⟩ : ∃ l1, l1 = weakP (cIni T0 r.pl) c.so := ⟨_, rfl⟩
  obtain ⟨l2, hl2⟩ : ∃ l2, l2 = brS l1 (cIni cs r.pl) (pick (signed ks vs) r.pl) c.lev c.so := ⟨_, rfl⟩
  obtain ⟨l3, hl3⟩ : ∃ l3, l3 = neuS l2 c.lev c.so c.eo := ⟨_, rfl⟩
  have hres : pRes cs T0 (signed ks vs) c = l3 := by rw [hl3, hl2, hl1]; unfold pRes; rw [hcpl]
  rw [hres]
  have a1 : AllC isN l1 := by rw [hl1]; exact weakP_isN hl0 hso
  have a2 : AllC isN l2 := by rw [hl2]; exact brS_isN a1 hso
  have a3 : AllC Cl.p4 l3 := by rw [hl3]; exact neuS_p4 a2 hso
  have n3 : l3.length = r.pl.length := by rw [hl3, neuS_length, hl2, brS_length, hl1, weakP_length]; simp [cIni]
  refine ⟨fun w' => QF D w w' l1, fun w' => QF D w w' l2, fun w' => QF D w w' l3, fun w' => ∃ g, w.heap.size ≤ g ∧ Sq w' r.q (.pointer (some ⟨b, 0, none⟩)) (.slice (some ⟨r.gi, 0, none⟩) r.pl.length r.ic) (.slice (some ⟨r.gt, 0, none⟩) r.pl.length r.pl.length) (.slice (some ⟨g, 0, none⟩) r.pl.length r.pl.length) c.lev c.so c.eo ∧ Row w' r.gt 77 (clsU l3) ∧ Row w' g 112 (nums .i8 (impS l3 c.lev)) ∧ Upd [r.gt, r.q] w w', ?_, ?_, ?_, ?_, ?_⟩
  · have h := weak_any D (cIni T0 r.pl) w hX0 hl0 (by subst hD; exact hso) (by subst hD; exact heo) (by subst hD; exact Nat.le_refl _) (by subst hD; show r.pl.length ≤ _; omega)
    subst hD
    exact h.mono fun e w' ⟨h1, h2⟩ => ⟨h1, by rw [hl1]; exact h2⟩
  · intro w1 hX1
    have hX1q := hX1.sq
    have hX1t := hX1.rt
    have hu : Upd [r.gt] w w1 := by have := hX1.up; subst hD; exact this
    subst hD
    obtain ⟨k1, k2⟩ := hKV w1 (hu.mono (by simp))
    have h := pairB_any r.q b r.gt r.pl.length r.pl.length r.gi r.ic g0 cs.length k0 kc vc kA vA _ _ _ _ _ bl c.lev c.so c.eo l1 cs r.pl ks vs w1 hX1q (Par.upd hp hu (by simpa using hb_gt)) hX1t (hgi.upd hu (by simpa using hgi_gt)) (h0.upd hu (by simpa using h0g)) k1 k2 h0g
      hX1.ln rfl rfl hkn hvn (by omega) hm (fun q hq => (hin q hq).1) hks hvs hmk (opc_pick_le hup (fun x hx => (hin x hx).1) rfl hop) a1 hlev.1 (by omega) hso
    rw [← hl2] at h
    refine h.mono fun e w' ⟨h1, h2, h3⟩ => ⟨h1, ?_⟩
    exact hX1.turn h2 h3 (by rw [hl2, brS_length])
  · intro w2 hX2
    have h := neutral_any D l2 w2 ⟨hX2.sq, hX2.rt, Upd.refl _ _, hX2.ln⟩ a2 (by subst hD; exact hso) (by subst hD; exact heo) (by subst hD; exact hlev.1) (by subst hD; show c.lev ≤ _; omega) (by subst hD; exact Nat.le_refl _) (by subst hD; show r.pl.length ≤ _; omega)
    subst hD
    refine h.mono fun e w' ⟨h1, h2⟩ => ⟨h1, ?_⟩
    have h3 := h2
    simp only [] at h3
    rw [← hl3] at h3
    exact hX2.turn h3.rt h3.up (by rw [hl3, neuS_length])
  · intro w3 hX3
    have h := implicit_any D l3 w3 ⟨hX3.sq, hX3.rt, Upd.refl _ _, hX3.ln⟩ a3 (by subst hD; exact hlev.1) (by subst hD; exact hlev.2) (by subst hD; show r.pl.length ≤ _; omega)
    have hu : Upd [r.gt] w w3 := by have := hX3.up; subst hD; exact this
    subst hD
    refine h.mono fun e w' ⟨h1, g, h2, h3, h4, h5, h6⟩ => ⟨h1, g, Nat.le_trans hu.size h2, h3, h4, h5, ?_⟩
    exact (hu.mono (by simp)).trans (h6.mono (by simp))
  · rintro w4 ⟨g, hg, s4, t4, v4, u4⟩
    have h := apply_any r.q b r.gi r.gt g gT gL r.pl.length cs.length r.ic r.pl.length kT kL _ _ _ mm ss bl c.lev c.so c.eo r.pl l3 (impS l3 c.lev) T V w4 s4 (Par.upd hp u4 (by simp; exact ⟨hb_gt, hb_q⟩)) (hgi.upd u4 (by simp; exact ⟨hgi_gt, hgi_q⟩)) t4 v4 (hT.upd u4 (by simp; exact ⟨hTg, hgT_q⟩)) (hV.upd u4 (by simp; exact ⟨hgL_gt, hgL_q⟩))
      (fun e => hTg e.symm) (by have := hV.lt; omega) rfl n3 (by rw [impS_length, n3]) hTl hVl (fun x hx => (hin x hx).1) hm (by omega)
    refine h.mono fun e w' ⟨h1, h2, h3, h4⟩ => ⟨h1, h2, h3, ?_⟩
    exact (u4.mono (by simp)).trans (h4.mono (by simp))
end Go.Proofs.YtjahmnenfknjgaaGreatDoor
namespace Go.Proofs.YtjahmnenfknjgaaGreatDoor
open Go.RowKit

theorem Chain5.mono {q : Nat} {w : World} {F G : World → Prop} (h : Chain5 q w F) (hfg : ∀ w', F w' → G w') : Chain5 q w G := by
  obtain ⟨F1, F2, F3, F4, h1, h2, h3, h4, h5⟩ := h
  exact ⟨F1, F2, F3, F4, h1, h2, h3, h4, fun w1 hw => (h5 w1 hw).mono fun _ _ ⟨a1, a2⟩ => ⟨a1, hfg _ a2⟩⟩

structure RC where
  b : Nat
  g0 : Nat
  k0 : Nat
  gT : Nat
  kT : Nat
  gL : Nat
  kL : Nat
  gm : Nat
  gs : Nat
  kc : Nat
  vc : Nat
  kA : Option Addr
  vA : Option Addr
  at_ : Int
/-- The paragraph as the rules over the sequences find it. -/
structure RP (D : RC) (cs T : List Cl) (V : List Int) (w : World) : Prop where
  par : Par w D.b (.slice (some ⟨D.g0, 0, none⟩) cs.length D.k0) (.slice D.kA cs.length D.kc) (.slice D.vA cs.length D.vc) D.at_ (.slice (some ⟨D.gT, 0, none⟩) cs.length D.kT) (.slice (some ⟨D.gL, 0, none⟩) cs.length D.kL) (.slice (some ⟨D.gm, 0, none⟩) cs.length cs.length) (.slice (some ⟨D.gs, 0, none⟩) cs.length cs.length)
  r0 : Row w D.g0 77 (clsU cs)
  rT : Row w D.gT 77 (clsU T)
  rL : Row w D.gL 112 (nums .i8 V)
  tl : T.length = cs.length
  vl : V.length = cs.length
theorem RP.upd0 {D : RC} {cs T : List Cl} {V : List Int} {w w' : World} (h : RP D cs T V w) (hu : Upd [] w w') : RP D cs T V w' :=
  ⟨Par.upd h.par hu (by simp), h.r0.upd hu (by simp), h.rT.upd hu (by simp), h.rL.upd hu (by simp), h.tl, h.vl⟩
/-- What holds ahead of sequence j. -/
structure RL (D : RC) (cs T0 : List Cl) (V0 br : List Int) (R : List CR) (gR : Nat) (wS w : World) (j : Nat) : Prop where
  p : RP D cs (pst0 cs T0 V0 br D.at_ (R.map CR.pl) j).1 (pst0 cs T0 V0 br D.at_ (R.map CR.pl) j).2 w
  ok : ∀ r, r ∈ R.drop j → r.Ok w wS.heap.size D.b cs T0 V0 D.at_
  rr : Row w gR 120 (R.map CR.p)
  up : Upd [D.gT, D.gL] wS w
theorem RL.step {D : RC} {cs T0 : List Cl} {V0 br : List Int} {R : List CR} {gR : Nat} {wS w w' : World} {j : Nat} (h : RL D cs T0 V0 br R gR wS w j) (hj : j < R.length)
    (hq : (R.map CR.q).Nodup) (ht : (R.map CR.gt).Nodup) (hT : D.gT < wS.heap.size) (hL : D.gL < wS.heap.size) (h0 : D.g0 < wS.heap.size) (h0T : D.g0 ≠ D.gT)
    (hrT : Row w' D.gT 77 (clsU (pstp cs T0 br (pst0 cs T0 V0 br D.at_ (R.map CR.pl) j) (chnP cs V0 T0 D.at_ R[j].pl)).1)) (hrL : Row w' D.gL 112 (nums .i8 (pstp cs T0 br (pst0 cs T0 V0 br D.at_ (R.map CR.pl) j) (chnP cs V0 T0 D.at_ R[j].pl)).2))
    (hu : Upd [D.gT, D.gL, R[j].gt, R[j].q] w w') : RL D cs T0 V0 br R gR wS w' (j + 1) := by
  have hjl : j < (R.map CR.pl).length := by simpa using hj
  have hE : pst0 cs T0 V0 br D.at_ (R.map CR.pl) (j + 1) = pstp cs T0 br (pst0 cs T0 V0 br D.at_ (R.map CR.pl) j) (chnP cs V0 T0 D.at_ R[j].pl) := by
    rw [pst0_succ hjl]; simp
  have hd : R.drop j = R[j] :: R.drop (j + 1) := List.drop_eq_getElem_cons hj
  have hjo := h.ok R[j] (by rw [hd]; exact List.mem_cons_self)
  obtain ⟨o1, o2, o3, o4, o5, o6⟩ := hjo
  have hp := h.p
  have bT : D.b ≠ D.gT := Row.ne_type hp.par hp.rT (by decide)
  have bL : D.b ≠ D.gL := Row.ne_type hp.par hp.rL (by decide)
  have bt : D.b ≠ R[j].gt := Row.ne_type hp.par o3 (by decide)
  have bq : D.b ≠ R[j].q := Row.ne_type hp.par o1 (by decide)
  have gL0 : D.g0 ≠ D.gL := hp.r0.ne_type hp.rL (by decide)
  have gq0 : D.g0 ≠ R[j].q := hp.r0.ne_type o1 (by decide)
  refine ⟨⟨Par.upd hp.par hu (by simp only [List.mem_cons, List.not_mem_nil, or_false]; omega), hp.r0.upd hu (by simp only [List.mem_cons, List.not_mem_nil, or_false]; omega), by rw [hE]; exact hrT, by rw [hE]; exact hrL, ?_, ?_⟩, ?_, ?_, ?_⟩
  · rw [hE]; unfold pstp; rw [scC_length]; exact hp.tl
  · rw [hE]; unfold pstp; rw [scI_length]; exact hp.vl
  · intro r hr
    have hrok := h.ok r (by rw [hd]; exact List.mem_cons_of_mem _ hr)
    obtain ⟨k, hk, rfl⟩ := List.getElem_of_mem hr
    simp only [List.getElem_drop] at hrok ⊢
    have hkl : j + 1 + k < R.length := by simp at hk; omega
    have nq : R[j].q ≠ R[j + 1 + k].q := by
      have := List.pairwise_iff_getElem.1 hq j (j + 1 + k) (by simpa using hj) (by simpa using hkl) (by omega)
      simpa using this
    have nt : R[j].gt ≠ R[j + 1 + k].gt := by
      have := List.pairwise_iff_getElem.1 ht j (j + 1 + k) (by simpa using hj) (by simpa using hkl) (by omega)
      simpa using this
    obtain ⟨p1, p2, p3, p4, p5, p6⟩ := hrok
    have e1 : R[j + 1 + k].q ≠ R[j].gt := Row.ne_type p1 o3 (by decide)
    have e2 : R[j + 1 + k].gi ≠ R[j].gt := p2.ne_type o3 (by decide)
    have e3 : R[j + 1 + k].gi ≠ R[j].q := p2.ne_type o1 (by decide)
    have e4 : R[j + 1 + k].gt ≠ R[j].q := p3.ne_type o1 (by decide)
    exact CR.Ok.upd ⟨p1, p2, p3, p4, p5, p6⟩ hu (by simp only [List.mem_cons, List.not_mem_nil, or_false]; omega) (by simp only [List.mem_cons, List.not_mem_nil, or_false]; omega) (by simp only [List.mem_cons, List.not_mem_nil, or_false]; omega)
  · have r1 : gR ≠ D.gT := h.rr.ne_type hp.rT (by decide)
    have r2 : gR ≠ D.gL := h.rr.ne_type hp.rL (by decide)
    have r3 : gR ≠ R[j].gt := h.rr.ne_type o3 (by decide)
    have r4 : gR ≠ R[j].q := h.rr.ne_type o1 (by decide)
    exact h.rr.upd hu (by simp only [List.mem_cons, List.not_mem_nil, or_false]; omega)
  · refine h.up.step hu fun t ht => ?_
    simp only [List.mem_cons, List.not_mem_nil, or_false] at ht ⊢
    rcases ht with rfl | rfl | rfl | rfl
    · left; left; rfl
    · left; right; rfl
    · right; exact o5
    · right; exact o4
end Go.Proofs.YtjahmnenfknjgaaGreatDoor
namespace Go.Proofs.YtjahmnenfknjgaaGreatDoor
open Go.RowKit

/-- The level of the paragraph. -/
def lvAt (cs : List Cl) (emb : Int) : Int := if emb = -1 then fsLev cs 0 cs.length else emb
/-- The types and levels of the whole, as the package has them. -/
noncomputable def wholeP (cs : List Cl) (br : List Int) (a : Int) : List Cl × List Int := prun cs (ptys cs a) (plvs cs a) br a (chnsP cs (klv cs (plvs cs a)))
theorem pst0_nonneg {cs T0 : List Cl} {V0 br : List Int} {base : Int} {pls : List (List Nat)} (P : Nat → Prop) (hV : ∀ q, P q → 0 ≤ nth V0 q) (hl : ∀ pl, pl ∈ pls → 0 ≤ (chnP cs V0 T0 base pl).lev) : ∀ j, j ≤ pls.length → ∀ q, P q → 0 ≤ nth (pst0 cs T0 V0 br base pls j).2 q
  | 0, _, q, hq => hV q hq
  | j + 1, h, q, hq => by
    have ih := pst0_nonneg (br := br) P hV hl j (by omega) q hq
    rw [pst0_succ (by omega)]
    unfold pstp
    have hlj := hl pls[j] (List.getElem_mem _)
    refine scI_keep (fun x => 0 ≤ x) _ (fun t ht => ?_) q ih
    by_cases htl : t < (pRes cs T0 br (chnP cs V0 T0 base pls[j])).length
    · rw [nth_impS htl]
      have := ilv_ge (level := (chnP cs V0 T0 base pls[j]).lev) (cat (pRes cs T0 br (chnP cs V0 T0 base pls[j])) t)
      omega
    · have : nth (impS (pRes cs T0 br (chnP cs V0 T0 base pls[j])) (chnP cs V0 T0 base pls[j]).lev) t = 0 := by
        unfold nth; rw [List.getD_eq_getElem?_getD, List.getElem?_eq_none (by rw [impS_length]; omega)]; rfl
      rw [this]; exact Int.le_refl _

set_option maxHeartbeats 32000000 in
set_option maxRecDepth 100000 in
theorem run_any (b g0 k0 gT kT kc vc : Nat) (kA vA : Option Addr) (emb : Int) (cs : List Cl) (ks vs : List Int) (w : World)
    (hp : Par w b (.slice (some ⟨g0, 0, none⟩) cs.length k0) (.slice kA cs.length kc) (.slice vA cs.length vc) emb (.slice (some ⟨gT, 0, none⟩) cs.length kT) (.slice none 0 0) (.slice none 0 0) (.slice none 0 0))
    (h0 : Row w g0 77 (clsU cs)) (hT : Row w gT 77 (clsU cs)) (h0T : g0 ≠ gT)
    (hKV : ∀ W, Upd [b, gT] w W → Rd W kA (nums .u8 ks) ∧ Rd W vA (nums .i32 vs))
    (hn0 : 0 < cs.length) (hB : ∀ i, i < cs.length → cat cs i = .B → i + 1 = cs.length) (hemb : emb = -1 ∨ emb = 0 ∨ emb = 1) (hkn : ks.length = cs.length) (hvn : vs.length = cs.length) (hm : cs.length ≤ 2147483647)
    (hks : ∀ j, j < cs.length → nth ks j = 0 ∨ nth ks j = 1 ∨ nth ks j = 2) (hvs : ∀ j, j < cs.length → nth ks j ≠ 0 → 0 < nth vs j) (hmk : ∀ j, j < cs.length → nth ks j ≠ 0 → cat cs j ≠ .NSM) (hop : opc (signed ks vs) cs.length ≤ 63) :
    Calls Tryz.prog 99 #[.pointer (some ⟨b, 0, none⟩)] w fun e w' => e = .returned (.tuple #[]) ∧ ∃ gL kL gm gs, w.heap.size ≤ gL ∧
      Par w' b (.slice (some ⟨g0, 0, none⟩) cs.length k0) (.slice kA cs.length kc) (.slice vA cs.length vc) (lvAt cs emb) (.slice (some ⟨gT, 0, none⟩) cs.length kT) (.slice (some ⟨gL, 0, none⟩) cs.length kL) (.slice (some ⟨gm, 0, none⟩) cs.length cs.length) (.slice (some ⟨gs, 0, none⟩) cs.length cs.length) ∧
      Row w' g0 77 (clsU cs) ∧ Row w' gT 77 (clsU (ownTs cs (wholeP cs (signed ks vs) (lvAt cs emb)).1)) ∧ Row w' gL 112 (nums .i8 (lents cs (wholeP cs (signed ks vs) (lvAt cs emb)).2 (lvAt cs emb))) ∧ Upd [b, gT] w w' := by
  obtain ⟨a, ha⟩ : ∃ a, a = lvAt cs emb := ⟨_, rfl⟩
  have haR : a = 0 ∨ a = 1 := by
    rw [ha]; unfold lvAt
    split
    · exact fsLev_range _ _ _
    · omega
  obtain ⟨i0, hi', hz0, hz1, hz2⟩ := info_parts info112
  have hbT : b ≠ gT := Row.ne_type hp hT (by decide)
  have hb0 : b ≠ g0 := Row.ne_type hp h0 (by decide)
  have HP0 := Lib.hid hp
  have H0 := Lib.hid h0
  have HT := Lib.hid hT
  rw [← ha]
  have ISO : Hid (Calls Tryz.prog 101 #[.pointer (some ⟨b, 0, none⟩)] w fun e w' => e = .returned (.tuple #[]) ∧ ∃ gm gs, w.heap.size ≤ gm ∧ w.heap.size ≤ gs ∧ gm ≠ gs ∧
      Par w' b (.slice (some ⟨g0, 0, none⟩) cs.length k0) (.slice kA cs.length kc) (.slice vA cs.length vc) emb (.slice (some ⟨gT, 0, none⟩) cs.length kT) (.slice none 0 0) (.slice (some ⟨gm, 0, none⟩) cs.length cs.length) (.slice (some ⟨gs, 0, none⟩) cs.length cs.length) ∧
      Row w' gm 3 (nums .i64 (mt cs)) ∧ Row w' gs 3 (nums .i64 (msI cs)) ∧ Upd [b] w w') := isolates_any b _ k0 _ _ emb gT kT _ _ _ cs w hp hT hm
  have HB := Lib.hid hB
  clear hp h0 hT
  go_enter Tryz.func99, Tryz.ntmps99
  go_upto_if 10 with (go_at_call 101; refine ISO.out.mono ?_; rintro e w1 ⟨rfl, gm, gs, hgm, hgs, hmn, hp1, hm1, hs1, hu1⟩; have c3 := hp1.cells.c3)
  have h01 := H0.out.upd hu1 (by simp; omega)
  have hT1 := HT.out.upd hu1 (by simp; omega)
  have hbm : b ≠ gm := Row.ne_type hp1 hm1 (by decide)
  have hbs : b ≠ gs := Row.ne_type hp1 hs1 (by decide)
  go_cut [] (fun wx => Par wx b (.slice (some ⟨g0, 0, none⟩) cs.length k0) (.slice kA cs.length kc) (.slice vA cs.length vc) a (.slice (some ⟨gT, 0, none⟩) cs.length kT) (.slice none 0 0) (.slice (some ⟨gm, 0, none⟩) cs.length cs.length) (.slice (some ⟨gs, 0, none⟩) cs.length cs.length) ∧
      Upd [b] w1 wx)
  case first =>
    by_cases hem : emb = -1
    · have hb1 : (emb == -1) = true := by rw [hem]; rfl
      have hae : a = fsLev cs 0 cs.length := by rw [ha, lvAt, if_pos hem]
      have LEN : Hid (Calls Tryz.prog 102 #[.pointer (some ⟨b, 0, none⟩)] w1 fun e w' => e = .returned (.int .i64 cs.length) ∧ w1 = w') := len_any b cs.length _ k0 w1 hp1.cells.c0
      have EMB : Hid (Calls Tryz.prog 121 #[.pointer (some ⟨b, 0, none⟩), .int .i64 0, .int .i64 cs.length] w1 fun x w' => x = .returned (.int .i8 a) ∧ Upd [] w1 w') := by
        rw [hae]
        exact embLev_any b gT kT gm cs.length cs.length 0 cs cs w1 hp1.cells.c4 hp1.cells.c6 hT1 hm1 rfl (Nat.le_refl _) (by omega) hm (fun q _ _ => rfl) (fun q _ hq hi => mOf_le cs q)
      have HPP := Lib.hid hp1
      clear hem hae ha hp1 hemb
      go_wp2_with (first
        | (go_at_call 102; refine LEN.out.mono ?_; rintro e w2 ⟨rfl, rfl⟩)
        | (go_at_call 121; refine EMB.out.mono ?_; rintro e w3 ⟨rfl, hu3⟩; have hp3 := Par.upd HPP.out hu3 (by simp); have d3 := hp3.cells.c3; have f3 := Row.free hp3 3))
      go_meet
      case rel => exact ⟨Row.set hp3 3 (.int .i8 a) (by simp [parCells]), (hu3.mono (by simp)).setCell (p := ⟨b, 3, none⟩) (.inl (by simp)) _⟩
    · have hb1 : (emb == -1) = false := beq_eq_false_iff_ne.2 hem
      have hae : a = emb := by rw [ha, lvAt, if_neg hem]
      have HPP := Lib.hid hp1
      clear hem ha hp1 hemb
      go_wp2
      go_meet
      case rel => exact ⟨by rw [hae]; exact HPP.out, Upd.refl _ _⟩
  case rest =>
    obtain ⟨hp2, hu2⟩ := hcut
    have HA := Lib.hid ha
    clear ha
    have hu12 := hu1.trans hu2
    have h02 := H0.out.upd hu12 (by simp; omega)
    have hT2 := HT.out.upd hu12 (by simp; omega)
    have hm2 := hm1.upd hu2 (by simp; omega)
    have hs2 := hs1.upd hu2 (by simp; omega)
    have LEN : Hid (Calls Tryz.prog 102 #[.pointer (some ⟨b, 0, none⟩)] wc fun e w' => e = .returned (.int .i64 cs.length) ∧ wc = w') := len_any b cs.length _ k0 wc hp2.cells.c0
    clear ISO hp1 hm1 hs1 h01 hT1 hu1 hu2 c3 hemb
    go_wp2_with (first
      | (go_at_call 102; refine LEN.out.mono ?_; rintro e w2 ⟨rfl, rfl⟩)
      | (at_make; refine wpList_make_full _ rfl _ _ 113 rfl wc.heap.size 112 i0 (.int .i8 0) 1 Tryz.underlying113 hi' hz0 hz1 _ _ _ _ cs.length rfl rfl rfl rfl ?b1 ?b2 ?b3 ?_))
    case b1 => rw [hz2]; omega
    case b2 => unfold maxLen; omega
    case b3 => exact Nat.le_refl _
    intro w3 hown3 hgrow3
    rw [made_nums] at hown3
    have hu3 : Upd [] wc w3 := (Upd.refl [] wc).grown0 hgrow3
    have hO := Row.of_owns hown3
    have hgLw : w.heap.size ≤ wc.heap.size := hu12.size
    obtain ⟨gL, hgL⟩ : ∃ gL, gL = wc.heap.size := ⟨_, rfl⟩
    have hblt := Row.lt hp2
    have hTlt := hT2.lt
    have h0lt := h02.lt
    have hmlt := hm2.lt
    have hslt := hs2.lt
    rw [← hgL] at hO hgLw hblt hTlt h0lt hmlt hslt ⊢
    have HGL := Lib.hid hgL
    clear hgL
    have hp3 := Par.upd hp2 hu3 (by simp)
    have c5 := hp3.cells.c5
    have f5 := Row.free hp3 5
    have hp4 := Row.set hp3 5 (.slice (some ⟨gL, 0, none⟩) cs.length cs.length) (by simp [parCells])
    have h04 := (h02.upd hu3 (by simp)).other (p := ⟨b, 5, none⟩) (fun e => hb0 e.symm) (.slice (some ⟨gL, 0, none⟩) cs.length cs.length)
    have hT4 := (hT2.upd hu3 (by simp)).other (p := ⟨b, 5, none⟩) (fun e => hbT e.symm) (.slice (some ⟨gL, 0, none⟩) cs.length cs.length)
    have hm4 := (hm2.upd hu3 (by simp)).other (p := ⟨b, 5, none⟩) (fun e => hbm e.symm) (.slice (some ⟨gL, 0, none⟩) cs.length cs.length)
    have hs4 := (hs2.upd hu3 (by simp)).other (p := ⟨b, 5, none⟩) (fun e => hbs e.symm) (.slice (some ⟨gL, 0, none⟩) cs.length cs.length)
    have hO4 := hO.other (p := ⟨b, 5, none⟩) (by show gL ≠ b; omega) (.slice (some ⟨gL, 0, none⟩) cs.length cs.length)
    have hu4 := (hu12.then hu3).setCell (p := ⟨b, 5, none⟩) (.inl (by simp)) (.slice (some ⟨gL, 0, none⟩) cs.length cs.length)
    clear hown3 hgrow3 hO hu12 hp2 h02 hT2 hm2 hs2 hu3 hp3 LEN
    go_wp2
    clear c5 f5
    generalize w3.setCell ⟨b, 5, none⟩ (.slice (some ⟨gL, 0, none⟩) cs.length cs.length) = w4 at *
    have hP4 : Par w4 b (.slice (some ⟨g0, 0, none⟩) cs.length k0) (.slice kA cs.length kc) (.slice vA cs.length vc) a (.slice (some ⟨gT, 0, none⟩) cs.length kT) (.slice (some ⟨gL, 0, none⟩) cs.length cs.length) (.slice (some ⟨gm, 0, none⟩) cs.length cs.length) (.slice (some ⟨gs, 0, none⟩) cs.length cs.length) := hp4
    have c5 := hP4.cells.c5
    have c3 := hP4.cells.c3
    have SL : Hid (Calls Tryz.prog 103 #[.slice (some ⟨gL, 0, none⟩) cs.length cs.length, .int .i8 a] w4.drew fun e w' => e = .returned (.tuple #[]) ∧ Row w' gL 112 (nums .i8 (List.replicate cs.length a)) ∧ Upd [gL] w4 w') :=
      (setLevels_any gL cs.length cs.length (List.replicate cs.length 0) a w4.drew hO4.drew (by simp) hm).mono fun _ _ ⟨a1, a2, a3⟩ => ⟨a1, a2, ((Upd.refl [gL] w4).drew).trans a3⟩
    have HP4 := Lib.hid hP4
    have e5 : w4.drew.cell? ⟨b, 5, none⟩ = some (.slice (some ⟨gL, 0, none⟩) cs.length cs.length) := c5
    have e3 : w4.drew.cell? ⟨b, 3, none⟩ = some (.int .i8 a) := c3
    have hbL : b ≠ gL := by omega
    clear hp4 hP4
    go_region_held3 (fun w' => w'.cell? ⟨b, 5, none⟩ = some (.slice (some ⟨gL, 0, none⟩) cs.length cs.length) ∧ w'.cell? ⟨b, 3, none⟩ = some (.int .i8 a))
      (first | with_reducible exact ⟨e5, e3⟩ | with_reducible exact ⟨d5, d3⟩)
      (first | (go_at_call 103; with_reducible refine SL.out.mono ?_; rintro e w5 ⟨rfl, hr5, hu5⟩; have hp5 := Par.upd HP4.out hu5 (by simpa using hbL); have d5 := hp5.cells.c5; have d3 := hp5.cells.c3))
    have hu45 : Upd [b] w w5 := hu4.step hu5 fun t ht => .inr (by simp at ht; omega)
    have h05 := h04.upd hu5 (by simp; omega)
    have hT5 := hT4.upd hu5 (by simp; omega)
    have hm5 := hm4.upd hu5 (by simp; omega)
    have hs5 := hs4.upd hu5 (by simp; omega)
    have hL5 := hr5.lt
    have hgsT : gs ≠ gT := hs5.ne_type hT5 (by decide)
    have hs45 : w4.heap.size ≤ w5.heap.size := hu5.size
    have EXP : Hid (Calls Tryz.prog 104 #[.pointer (some ⟨b, 0, none⟩)] w5 fun x w' => x = .returned (.tuple #[]) ∧ ∃ st, XF ⟨b, gT, kT, gL, cs.length, gm, w5.heap.size, .slice (some ⟨g0, 0, none⟩) cs.length k0, .slice kA cs.length kc, .slice vA cs.length vc, .slice (some ⟨gs, 0, none⟩) cs.length cs.length, a, cs.length⟩ w5 w' (mt cs) (ptys cs a) (plvs cs a) st) :=
      explicit_any ⟨b, gT, kT, gL, cs.length, gm, w5.heap.size, .slice (some ⟨g0, 0, none⟩) cs.length k0, .slice kA cs.length kc, .slice vA cs.length vc, .slice (some ⟨gs, 0, none⟩) cs.length cs.length, a, cs.length⟩ cs w5 rfl haR HB.out hm rfl hp5 hT5 hr5 hm5
    clear SL HP4 h04 hT4 hm4 hs4 hO4 hu4 hu5 c5 c3 e5 e3 d5 d3 hp5 hT5 hr5 hm5
    obtain ⟨T0, hT0⟩ : ∃ T0, T0 = ptys cs a := ⟨_, rfl⟩
    obtain ⟨V0, hV0⟩ : ∃ V0, V0 = plvs cs a := ⟨_, rfl⟩
    obtain ⟨br, hbr⟩ : ∃ br, br = signed ks vs := ⟨_, rfl⟩
    rw [← hT0, ← hV0] at EXP
    have hT0l : T0.length = cs.length := by rw [hT0, ptys_length]
    have hV0l : V0.length = cs.length := by rw [hV0, plvs_length]
    have HVR : Hid (∀ q, q < cs.length → (cat cs q).isRem = false → 0 ≤ nth V0 q ∧ nth V0 q ≤ 125) := fun q hq _ => by rw [hV0, nth_plvs hq]; exact plv_range haR q
    have HTP : Hid (∀ x, x < cs.length → (cat cs x).isRem = false → (cat T0 x).p0 = true) := fun x hx hr => by rw [hT0, cat_ptys hx]; exact pty_p0 haR hr
    have HWH : Hid (wholeP cs br a = prun cs T0 V0 br a (chnsP cs (klv cs V0))) := by show _ = _; rw [hT0, hV0]; rfl
    have HBRR := Lib.hid hbr
    obtain ⟨D, hD⟩ : ∃ D : RC, D = ⟨b, g0, k0, gT, kT, gL, cs.length, gm, gs, kc, vc, kA, vA, a⟩ := ⟨_, rfl⟩
    -- behind X1 to X8
    have H6 : Hid (∀ w6, (∃ st, XF ⟨b, gT, kT, gL, cs.length, gm, w5.heap.size, .slice (some ⟨g0, 0, none⟩) cs.length k0, .slice kA cs.length kc, .slice vA cs.length vc, .slice (some ⟨gs, 0, none⟩) cs.length cs.length, a, cs.length⟩ w5 w6 (mt cs) T0 V0 st) →
        RP D cs T0 V0 w6 ∧ Upd [b, gT] w w6 ∧ gT < w6.heap.size ∧ gL < w6.heap.size ∧ g0 < w6.heap.size ∧
        Calls Tryz.prog 83 #[.pointer (some ⟨b, 0, none⟩)] w6 (RetSeqs w6 b cs T0 V0 a)) := by
      rintro w6 ⟨st, hX⟩
      have hup := hX.up
      have e1 : g0 ≠ gL := by omega
      have h06 := h05.upd hup (by simp; exact ⟨h0T, e1⟩)
      have e2 := hgsT
      have e3 : gs ≠ gL := by omega
      have hs6 := hs5.upd hup (by simp; exact ⟨e2, e3⟩)
      have hsz : w5.heap.size ≤ w6.heap.size := hup.size
      have hu : Upd [b, gT] w w6 := (hu45.mono (by simp)).step hup fun t ht => by
        simp at ht
        rcases ht with rfl | rfl
        · left; simp
        · right; exact hgLw
      refine ⟨by subst hD; exact ⟨hX.par, h06, hX.rt, hX.rl, hT0l, hV0l⟩, hu, by omega, by omega, by omega, ?_⟩
      exact sequences_any b g0 k0 gT kT gL cs.length gm gs _ _ a cs T0 V0 w6 hX.par h06 hX.rt hX.rl hX.rm hs6 hT0l hV0l HVR.out haR hm
    -- a round
    have HR : Hid (∀ (R : List CR) (gR : Nat) (wS wr : World) (j : Nat) (hj : j < R.length), R.map CR.pl = chnsP cs (klv cs V0) → RL D cs T0 V0 br R gR wS wr j → (R.map CR.q).Nodup → (R.map CR.gt).Nodup → gT < wS.heap.size → gL < wS.heap.size → g0 < wS.heap.size → Upd [b, gT] w wS → w.heap.size ≤ gL →
        Chain5 R[j].q wr fun w' => RL D cs T0 V0 br R gR wS w' (j + 1)) := by
      intro R gR wS wr j hj hRl hRL hq ht hTs hLs h0s hwS hgl
      have hd : R.drop j = R[j] :: R.drop (j + 1) := List.drop_eq_getElem_cons hj
      have hok := hRL.ok R[j] (by rw [hd]; exact List.mem_cons_self)
      have hmem : R[j].pl ∈ chnsP cs (klv cs V0) := by rw [← hRl]; exact List.mem_map_of_mem (List.getElem_mem hj)
      obtain ⟨m1, m2, m3, m4⟩ := chn_mem (fun q hq hr => (HVR.out q hq hr).1) hmem
      have hP := hRL.p
      have hbok := hok.2.2.2.2.1
      have hqok := hok.2.2.2.1
      subst hD
      have hup : Upd [gT, gL] wS wr := hRL.up
      have hwr : Upd [b, gT] w wr := hwS.step hup fun t ht => by
        simp at ht
        rcases ht with rfl | rfl
        · left; simp
        · right; exact hgl
      have hwsz : w.heap.size ≤ wS.heap.size := hwS.size
      have hc := chain5 hok hP.par hP.r0 hP.rT hP.rL hP.tl hP.vl (ks := ks) (vs := vs) (fun W hW => hKV W (hwr.step hW fun t ht => by
        simp at ht
        rcases ht with rfl | rfl
        · right; omega
        · right; omega)) hkn hvn hm hks hvs hmk hop m1 m2 m3 m4 HTP.out HVR.out (by show g0 ≠ _; omega) (by show gT ≠ _; omega)
      rw [← hbr] at hc
      exact hc.mono fun w' ⟨f1, f2, f3⟩ => hRL.step hj hq ht hTs hLs h0s h0T f1 f2 f3
    clear hT0 hV0 hbr
    go_wp2_with (first
      | (go_at_call 104; refine EXP.out.mono ?_; rintro e w6 ⟨rfl, hX⟩; obtain ⟨hP6, hU6, hTs, hLs, h0s, hSQ⟩ := H6.out _ hX)
      | (go_at_call 83; refine hSQ.mono ?_; rintro e w7 ⟨gR, cap, R, rfl, hRl, hRR, hCR, hgR, hu7⟩))
    have hRL0 : RL D cs T0 V0 br R gR w6 w7 0 := ⟨hP6.upd0 hu7, fun r hr => by subst hD; exact hCR.ok r hr, hRR, hu7.mono (by simp)⟩
    have HCQ := Lib.hid hCR.nq
    have HCT := Lib.hid hCR.nt
    have HRL := Lib.hid hRl
    have HCH := Lib.hid (fun j hj wr h => HR.out R gR w6 wr j hj hRl h hCR.nq hCR.nt hTs hLs h0s hU6 (by have := HGL.out; omega))
    have hRlen : R.length ≤ 2147483647 := by
      have h1 : R.length = (chnsP cs (klv cs V0)).length := by rw [← hRl]; simp
      have h2 : (chnsP cs (klv cs V0)).length ≤ (runs (klv cs V0)).length := by unfold chnsP; rw [List.length_map]; exact List.length_filter_le _ _
      have h3 := rst_len (klv cs V0) (klv cs V0).length
      have h4 := klv_length cs V0
      have : (runs (klv cs V0)).length ≤ (klv cs V0).length := h3
      omega
    have HHP := Lib.hid hP6
    clear hCR hRl hRR hu7 hX hSQ hP6 HR H6 EXP
    go_loopg [38] (R.length + 1) (fun k s wr => ∃ (j : Nat), s = .int .i64 j ∧ j ≤ R.length ∧ RL D cs T0 V0 br R gR w6 wr j ∧ Hid (R.length - j ≤ k))
    case atStart => exact ⟨0, rfl, by omega, hRL0, by show _ ≤ _; omega⟩
    case round =>
      clear hRL0
      obtain ⟨j, rfl, hj, hRL, hk⟩ := hrel
      by_cases hlt : j < R.length
      · obtain ⟨q, hq⟩ : ∃ q, q = R[j].q := ⟨_, rfl⟩
        have cq : wr.cell? ⟨gR, j, none⟩ = some (.pointer (some ⟨q, 0, none⟩)) := by
          rw [hRL.rr.cell j (by simpa using hlt), hq]; simp [CR.p]
        have hch := HCH.out j hlt wr hRL
        rw [← hq] at hch
        obtain ⟨F1, F2, F3, F4, h1, h2, h3, h4, h5⟩ := hch
        have A1 := Lib.hid h1
        have A2 := Lib.hid h2
        have A3 := Lib.hid h3
        have A4 := Lib.hid h4
        have A5 := Lib.hid h5
        clear h1 h2 h3 h4 h5 hq hRL
        go_wp2_with (first
          | (go_at_call 85; refine A1.out.mono ?_; rintro e x1 ⟨rfl, f1⟩)
          | (go_at_call 86; refine (A2.out _ f1).mono ?_; rintro e x2 ⟨rfl, f2⟩)
          | (go_at_call 87; refine (A3.out _ f2).mono ?_; rintro e x3 ⟨rfl, f3⟩)
          | (go_at_call 88; refine (A4.out _ f3).mono ?_; rintro e x4 ⟨rfl, f4⟩)
          | (go_at_call 122; refine (A5.out _ f4).mono ?_; rintro e x5 ⟨rfl, f5⟩))
        go_roundg (R.length - (j + 1))
        case measure => have := hk.out; omega
        case rel => exact ⟨j + 1, by go_num, by omega, f5, Nat.le_refl _⟩
      · have hjR : j = R.length := by omega
        have hP := hRL.p
        have hup := hRL.up
        have hE : pst0 cs T0 V0 br D.at_ (R.map CR.pl) j = wholeP cs br a := by
          rw [HWH.out, ← HRL.out, hjR]
          have := pst0_end cs T0 V0 br D.at_ (R.map CR.pl)
          rw [List.length_map] at this
          rw [this]; subst hD; rfl
        have hnn := pst0_nonneg (cs := cs) (T0 := T0) (V0 := V0) (br := br) (base := D.at_) (pls := R.map CR.pl) (fun q => q < cs.length ∧ (cat cs q).isRem = false) (fun q hq => (HVR.out q hq.1 hq.2).1)
          (fun pl hpl => by
            rw [HRL.out] at hpl
            obtain ⟨m1, m2, m3, m4⟩ := chn_mem (fun q hq hr => (HVR.out q hq hr).1) hpl
            have := m3 _ (nat_mem (List.length_pos_iff.2 m2))
            exact (HVR.out _ this.1 this.2).1) j (by rw [List.length_map]; omega)
        rw [hE] at hP hnn
        subst hD
        have ASG := Lib.hid (assign_any b g0 k0 gT kT gL cs.length _ _ _ _ a cs _ _ wr hP.par hP.r0 hP.rT hP.rL h0T hP.tl hP.vl hn0 (fun q hq hr => hnn q ⟨hq, hr⟩) haR hm)
        have hwr : Upd [b, gT] w wr := hU6.step hup fun t ht => by
          simp at ht
          rcases ht with rfl | rfl
          · left; simp
          · right; have := HGL.out; omega
        have HF : Hid (∀ w', Row w' gT 77 (clsU (ownTs cs (wholeP cs br a).1)) → Row w' gL 112 (nums .i8 (lents cs (wholeP cs br a).2 a)) → Upd [gT, gL] wr w' → ∃ gL kL gm gs, w.heap.size ≤ gL ∧
            Par w' b (.slice (some ⟨g0, 0, none⟩) cs.length k0) (.slice kA cs.length kc) (.slice vA cs.length vc) a (.slice (some ⟨gT, 0, none⟩) cs.length kT) (.slice (some ⟨gL, 0, none⟩) cs.length kL) (.slice (some ⟨gm, 0, none⟩) cs.length cs.length) (.slice (some ⟨gs, 0, none⟩) cs.length cs.length) ∧
            Row w' g0 77 (clsU cs) ∧ Row w' gT 77 (clsU (ownTs cs (wholeP cs (signed ks vs) a).1)) ∧ Row w' gL 112 (nums .i8 (lents cs (wholeP cs (signed ks vs) a).2 a)) ∧ Upd [b, gT] w w') := by
          intro w' r1 r2 hu
          rw [HBRR.out] at r1 r2
          have x1 : g0 ≠ gL := hP.r0.ne_type hP.rL (by decide)
          refine ⟨gL, cs.length, gm, gs, by have := HGL.out; omega, Par.upd hP.par hu (by simp; exact ⟨hbT, hbL⟩), hP.r0.upd hu (by simp; exact ⟨h0T, x1⟩), r1, r2, ?_⟩
          exact hwr.step hu fun t ht => by
            simp at ht
            rcases ht with rfl | rfl
            · left; simp
            · right; have := HGL.out; omega
        clear hRL hP hnn hE hjR hup
        go_wp2_with (go_at_call 123; refine ASG.out.mono ?_; rintro e w9 ⟨rfl, z1, z2, z3⟩)
        go_end0
        exact ⟨rfl, HF.out _ z1 z2 z3⟩
end Go.Proofs.YtjahmnenfknjgaaGreatDoor
