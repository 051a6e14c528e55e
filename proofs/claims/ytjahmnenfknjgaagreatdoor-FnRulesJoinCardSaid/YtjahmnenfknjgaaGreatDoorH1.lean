/- The whole paragraph at one chain's places; N0 with its initial types from behind X1 to X8; plain Lean. -/
import Derived.Test.YtjahmnenfknjgaaGreatDoorG25
import Derived.Test.YtjahmnenfknjgaaGreatDoorG24
import Derived.Test.YtjahmnenfknjgaaGreatDoorG14
import Derived.Deep.RegionHeld3
import Derived.Deep.AppendLies
set_option linter.unusedVariables false
set_option linter.unusedSimpArgs false
namespace Go.Proofs.YtjahmnenfknjgaaGreatDoor

theorem nat_inj {pl : List Nat} (hn : pl.Nodup) {i j : Nat} (hi : i < pl.length) (hj : j < pl.length) (h : nat pl i = nat pl j) : i = j := by
  rw [← nat_eq hi, ← nat_eq hj] at h
  exact (List.getElem_inj hn).1 h
theorem scC_hit {T : List Cl} {pl : List Nat} {r : List Cl} (hn : pl.Nodup) (hT : ∀ x, x ∈ pl → x < T.length) {k : Nat} : ∀ n, n ≤ pl.length → k < n → cat (scC T pl r n) (nat pl k) = cat r k
  | n + 1, h, hk => by
    unfold scC
    rw [cat_set (by rw [scC_length]; exact hT _ (nat_mem (by omega)))]
    by_cases e : k = n
    · subst e; rw [if_pos rfl]
    · rw [if_neg (fun he => e (nat_inj hn (by omega) (by omega) he))]; exact scC_hit hn hT n (by omega) (by omega)
theorem scI_hit {T : List Int} {pl : List Nat} {r : List Int} (hn : pl.Nodup) (hT : ∀ x, x ∈ pl → x < T.length) {k : Nat} : ∀ n, n ≤ pl.length → k < n → nth (scI T pl r n) (nat pl k) = nth r k
  | n + 1, h, hk => by
    unfold scI
    rw [nth_set (by rw [scI_length]; exact hT _ (nat_mem (by omega)))]
    by_cases e : k = n
    · subst e; rw [if_pos rfl]
    · rw [if_neg (fun he => e (nat_inj hn (by omega) (by omega) he))]; exact scI_hit hn hT n (by omega) (by omega)
theorem foldl_away {cs T0 : List Cl} {V0 br : List Int} {a : Int} {q : Nat} : ∀ (l : List (List Nat)) (s : List Cl × List Int), (∀ pl, pl ∈ l → q ∉ pl) →
    cat ((l.map (chnP cs V0 T0 a)).foldl (pstp cs T0 br) s).1 q = cat s.1 q ∧ nth ((l.map (chnP cs V0 T0 a)).foldl (pstp cs T0 br) s).2 q = nth s.2 q
  | [], s, _ => ⟨rfl, rfl⟩
  | pl :: l, s, h => by
    rw [List.map_cons, List.foldl_cons]
    obtain ⟨h1, h2⟩ := foldl_away (cs := cs) (T0 := T0) (V0 := V0) (br := br) (a := a) l (pstp cs T0 br s (chnP cs V0 T0 a pl)) fun x hx => h x (by simp [hx])
    refine ⟨h1.trans ?_, h2.trans ?_⟩
    · exact scC_away (pl := pl) _ (Nat.le_refl _) (h pl (by simp))
    · exact scI_away (pl := pl) _ (Nat.le_refl _) (h pl (by simp))
theorem foldl_len {cs T0 : List Cl} {V0 br : List Int} {a : Int} : ∀ (l : List (List Nat)) (s : List Cl × List Int),
    ((l.map (chnP cs V0 T0 a)).foldl (pstp cs T0 br) s).1.length = s.1.length ∧ ((l.map (chnP cs V0 T0 a)).foldl (pstp cs T0 br) s).2.length = s.2.length
  | [], s => ⟨rfl, rfl⟩
  | pl :: l, s => by
    rw [List.map_cons, List.foldl_cons]
    obtain ⟨h1, h2⟩ := foldl_len (cs := cs) (T0 := T0) (V0 := V0) (br := br) (a := a) l (pstp cs T0 br s (chnP cs V0 T0 a pl))
    exact ⟨h1.trans (scC_length _ _ _ _), h2.trans (scI_length _ _ _ _)⟩
/-- What the whole has at a chain's places is that chain's own. -/
theorem whole_chain {cs : List Cl} {br : List Int} {a : Int} (hb : a = 0 ∨ a = 1) (hB : ∀ i, i < cs.length → cat cs i = .B → i + 1 = cs.length) {pl : List Nat} (hpl : pl ∈ chnsP cs (klv cs (plvs cs a))) {k : Nat} (hk : k < pl.length) :
    cat (wholeP cs br a).1 (nat pl k) = cat (pRes cs (ptys cs a) br (chnP cs (plvs cs a) (ptys cs a) a pl)) k ∧ nth (wholeP cs br a).2 (nat pl k) = nth (impS (pRes cs (ptys cs a) br (chnP cs (plvs cs a) (ptys cs a) a pl)) (chnP cs (plvs cs a) (ptys cs a) a pl).lev) k := by
  have hok := lvs_ok (cs := cs) hb hB
  have hnd : (chnsP cs (klv cs (plvs cs a))).flatten.Nodup := by rw [klv_plvs, ← joined_eq hok]; exact joined_nodup _ _
  have hin : ∀ x, x ∈ pl → x < cs.length := by
    have h := hpl
    rw [klv_plvs, ← joined_eq hok] at h
    intro x hx; have := ((joined_mem h).2 x hx).1; rw [lvs_length] at this; exact this
  unfold wholeP prun
  obtain ⟨pre, post, e⟩ := List.append_of_mem hpl
  rw [e] at hnd ⊢
  rw [List.flatten_append, List.flatten_cons, List.nodup_append, List.nodup_append] at hnd
  obtain ⟨_, ⟨n2, _, n3⟩, _⟩ := hnd
  rw [List.map_append, List.map_cons, List.foldl_append, List.foldl_cons]
  have hl := foldl_len (cs := cs) (T0 := ptys cs a) (V0 := plvs cs a) (br := br) (a := a) pre (ptys cs a, plvs cs a)
  rw [ptys_length, plvs_length] at hl
  obtain ⟨h1, h2⟩ := foldl_away (cs := cs) (T0 := ptys cs a) (V0 := plvs cs a) (br := br) (a := a) (q := nat pl k) post (pstp cs (ptys cs a) br ((pre.map (chnP cs (plvs cs a) (ptys cs a) a)).foldl (pstp cs (ptys cs a) br) (ptys cs a, plvs cs a)) (chnP cs (plvs cs a) (ptys cs a) a pl))
    fun x hx hq => n3 _ (nat_mem hk) _ (List.mem_flatten.2 ⟨x, hx, hq⟩) rfl
  rw [h1, h2]
  refine ⟨scC_hit (pl := pl) n2 (fun x hx => by rw [hl.1]; exact hin x hx) _ (Nat.le_refl _) hk, scI_hit (pl := pl) n2 (fun x hx => by rw [hl.2]; exact hin x hx) _ (Nat.le_refl _) hk⟩
/-- N0 over initial types that are marks at the same places. -/
theorem brS_ini {l ini ini' : List Cl} {br : List Int} {lv : Int} {so : Cl} (hi : ∀ i, cat ini i = .NSM ↔ cat ini' i = .NSM) : brS l ini br lv so = brS l ini' br lv so := by
  have h : NQ (fun _ => False) (brS l ini br lv so) (brS l ini' br lv so) := brS_nq (m := l) ⟨rfl, fun i => .inl rfl⟩ (fun i h => h.elim) hi lv so
  apply ext_cat h.len
  intro j hj
  rcases h.at_ j with e | ⟨e, _⟩
  · exact e
  · exact e.elim
theorem pick_signed {ks vs : List Int} {pl : List Nat} (h : ∀ x, x ∈ pl → x < ks.length) : signed (pick ks pl) (pick vs pl) = pick (signed ks vs) pl := by
  apply ext_nth
  · rw [signed_length, pick_length, pick_length]
  · intro j hj
    rw [signed_length, pick_length] at hj
    have e : ∀ l : List Int, nth (pick l pl) j = nth l (nat pl j) := fun l => by simp [nth, pick, nat, hj]
    rw [nth_signed (by rw [pick_length]; exact hj), e, e, e, nth_signed (h _ (nat_mem hj))]
/-- The rules one after the other, as the law calls them, give pRes. -/
theorem rules_join {cs : List Cl} {ks vs : List Int} {a : Int} (hb : a = 0 ∨ a = 1) (hB : ∀ i, i < cs.length → cat cs i = .B → i + 1 = cs.length) (hC : ¬ ClosP cs a) (hkn : ks.length = cs.length) {pl : List Nat} (hin : ∀ x, x ∈ pl → x < cs.length ∧ (cat cs x).isRem = false) (lev : Int) (so eo : Cl) :
    neuS (brS (weakP (cIni (ptys cs a) pl) so) (cIni (ptys cs a) pl) (signed (pick ks pl) (pick vs pl)) lev so) lev so eo = pRes cs (ptys cs a) (signed ks vs) ⟨pl, lev, so, eo⟩ := by
  unfold pRes
  simp only
  rw [pick_signed (fun x hx => by rw [hkn]; exact (hin x hx).1)]
  rw [brS_ini (ini := cIni (ptys cs a) pl) (ini' := cIni cs pl)]
  intro i
  by_cases hi : i < pl.length
  · rw [cat_cIni hi, cat_cIni hi]
    have hk := hin _ (nat_mem hi)
    rw [pty_xty hk.1 hC hk.2]; exact ty_nsm hb hk.1 hC
  · rw [cat_out (by rw [cIni_length]; omega), cat_out (by rw [cIni_length]; omega)]
/-- What the law takes out of the whole's answers at a chain's places. -/
theorem take_types {cs : List Cl} {br : List Int} {a : Int} (hb : a = 0 ∨ a = 1) (hB : ∀ i, i < cs.length → cat cs i = .B → i + 1 = cs.length) {pl : List Nat} (hpl : pl ∈ chnsP cs (klv cs (plvs cs a))) (hin : ∀ x, x ∈ pl → x < cs.length ∧ (cat cs x).isRem = false) :
    pick (clsI (ownTs cs (wholeP cs br a).1)) pl = clsI (pRes cs (ptys cs a) br (chnP cs (plvs cs a) (ptys cs a) a pl)) ∧
    pick (lents cs (wholeP cs br a).2 a) pl = impS (pRes cs (ptys cs a) br (chnP cs (plvs cs a) (ptys cs a) a pl)) (chnP cs (plvs cs a) (ptys cs a) a pl).lev := by
  have hlen : (pRes cs (ptys cs a) br (chnP cs (plvs cs a) (ptys cs a) a pl)).length = pl.length := by
    unfold pRes; rw [neuS_length, brS_length, weakP_length, cIni_length]; rfl
  have e : ∀ (l : List Int) (j : Nat), j < pl.length → nth (pick l pl) j = nth l (nat pl j) := fun l j hj => by simp [nth, pick, nat, hj]
  constructor
  · apply ext_nth
    · rw [pick_length, clsI_length, hlen]
    · intro j hj
      rw [pick_length] at hj
      have hk := hin _ (nat_mem hj)
      have hwl : nat pl j < (wholeP cs br a).1.length := by rw [whole_length.1]; exact hk.1
      rw [e _ j hj, nth_clsI (by unfold ownTs; rw [lst_length]; exact hwl), nth_clsI (by rw [hlen]; exact hj)]
      unfold ownTs
      rw [cat_lst hwl, ownT, if_neg (by simp [hk.2]), (whole_chain hb hB hpl hj).1]
  · apply ext_nth
    · rw [pick_length, impS_length, hlen]
    · intro j hj
      rw [pick_length] at hj
      have hk := hin _ (nat_mem hj)
      rw [e _ j hj, nth_lents hk.1, lent_kept hk.2, (whole_chain hb hB hpl hj).2]
end Go.Proofs.YtjahmnenfknjgaaGreatDoor
namespace Go.Proofs.YtjahmnenfknjgaaGreatDoor
open Go.RowKit

/-- A paragraph behind X1 to X8. -/
def RetExp (w : World) (cs : List Cl) (a : Int) (e : Ending) (w' : World) : Prop := ∃ b g0 k0 gT kT gL gm gs, e = .returned (.pointer (some ⟨b, 0, none⟩)) ∧ w.heap.size ≤ b ∧ w.heap.size ≤ g0 ∧ w.heap.size ≤ gT ∧ w.heap.size ≤ gL ∧
      Par w' b (.slice (some ⟨g0, 0, none⟩) cs.length k0) (.slice none 0 0) (.slice none 0 0) a (.slice (some ⟨gT, 0, none⟩) cs.length kT) (.slice (some ⟨gL, 0, none⟩) cs.length cs.length) (.slice (some ⟨gm, 0, none⟩) cs.length cs.length) (.slice (some ⟨gs, 0, none⟩) cs.length cs.length) ∧
      Row w' g0 77 (clsU cs) ∧ Row w' gT 77 (clsU (ptys cs a)) ∧ Row w' gL 112 (nums .i8 (plvs cs a)) ∧ Row w' gm 3 (nums .i64 (mt cs)) ∧ Row w' gs 3 (nums .i64 (msI cs)) ∧ Upd [] w w'

set_option maxHeartbeats 8000000 in
set_option maxRecDepth 100000 in
theorem mkExplicit_any (gx c : Nat) (cs : List Cl) (a : Int) (w : World) (hr : Row w gx 77 (clsU cs)) (ha : a = 0 ∨ a = 1) (hB : ∀ i, i < cs.length → cat cs i = .B → i + 1 = cs.length) (hm : cs.length ≤ 2147483647) :
    Calls Tryz.prog 82 #[.slice (some ⟨gx, 0, none⟩) cs.length c, .int .i8 a] w (RetExp w cs a) := by
  obtain ⟨i0, hi', hz0, hz1, hz2⟩ := info_parts info112
  have C1 := bare_any gx c cs w hr hm
  have HA := Lib.hid ha
  have HB := Lib.hid hB
  clear hr ha hB
  go_enter Tryz.func82, Tryz.ntmps82
  go_wp2_with (first
    | (go_at_call 100; refine C1.mono ?_; rintro e w1 ⟨b, g0, k0, gT, kT, rfl, hb, hg0, hgT, h0T, hkT, hp1, h01, hT1, hu1⟩; have c3 := hp1.cells.c3; have f3 := Row.free hp1 3; have hbT : b ≠ gT := Row.ne_type hp1 hT1 (by decide); have hb0 : b ≠ g0 := Row.ne_type hp1 h01 (by decide); have hp2 := Row.set hp1 3 (.int .i8 a) (by simp [parCells]); have hT2 := hT1.other (p := ⟨b, 3, none⟩) (fun e => hbT e.symm) (.int .i8 a); have h02 := h01.other (p := ⟨b, 3, none⟩) (fun e => hb0 e.symm) (.int .i8 a); have hu2 := hu1.setCell (p := ⟨b, 3, none⟩) (.inr hb) (.int .i8 a); have ISO := isolates_any b _ k0 _ _ a gT kT _ _ _ cs (w1.setCell ⟨b, 3, none⟩ (.int .i8 a)) hp2 hT2 hm)
    | (go_at_call 101; refine ISO.mono ?_; rintro e w3 ⟨rfl, gm, gs, hgm, hgs, hmn, hp3, hm3, hs3, hu3⟩; have LEN := len_any b cs.length _ k0 w3 hp3.cells.c0)
    | (go_at_call 102; refine LEN.mono ?_; rintro e w4 ⟨rfl, rfl⟩)
    | (at_make; refine wpList_make_full _ rfl _ _ 113 rfl w3.heap.size 112 i0 (.int .i8 0) 1 Tryz.underlying113 hi' hz0 hz1 _ _ _ _ cs.length rfl rfl rfl rfl ?b1 ?b2 ?b3 ?_))
  case b1 => rw [hz2]; omega
  case b2 => unfold maxLen; omega
  case b3 => exact Nat.le_refl _
  intro w4 hown4 hgrow4
  rw [made_nums] at hown4
  have hbm : b ≠ gm := Row.ne_type hp3 hm3 (by decide)
  have hbs : b ≠ gs := Row.ne_type hp3 hs3 (by decide)
  have hu13 : Upd [] w w3 := hu2.step hu3 fun t ht => .inr (by simp at ht; omega)
  have h03 := h02.upd hu3 (by simp; omega)
  have hT3 := hT2.upd hu3 (by simp; omega)
  have hu34 : Upd [] w3 w4 := (Upd.refl [] w3).grown0 hgrow4
  have hO := Row.of_owns hown4
  have hgLw : w.heap.size ≤ w3.heap.size := hu13.size
  obtain ⟨gL, hgL⟩ : ∃ gL, gL = w3.heap.size := ⟨_, rfl⟩
  have hblt := Row.lt hp3
  have hTlt := hT3.lt
  have h0lt := h03.lt
  have hmlt := hm3.lt
  have hslt := hs3.lt
  rw [← hgL] at hO hgLw hblt hTlt h0lt hmlt hslt ⊢
  have HGL := Lib.hid hgL
  clear hgL
  have hp4 := Par.upd hp3 hu34 (by simp)
  have c5 := hp4.cells.c5
  have f5 := Row.free hp4 5
  have hp5 := Row.set hp4 5 (.slice (some ⟨gL, 0, none⟩) cs.length cs.length) (by simp [parCells])
  have h05 := (h03.upd hu34 (by simp)).other (p := ⟨b, 5, none⟩) (fun e => hb0 e.symm) (.slice (some ⟨gL, 0, none⟩) cs.length cs.length)
  have hT5 := (hT3.upd hu34 (by simp)).other (p := ⟨b, 5, none⟩) (fun e => hbT e.symm) (.slice (some ⟨gL, 0, none⟩) cs.length cs.length)
  have hm5 := (hm3.upd hu34 (by simp)).other (p := ⟨b, 5, none⟩) (fun e => hbm e.symm) (.slice (some ⟨gL, 0, none⟩) cs.length cs.length)
  have hs5 := (hs3.upd hu34 (by simp)).other (p := ⟨b, 5, none⟩) (fun e => hbs e.symm) (.slice (some ⟨gL, 0, none⟩) cs.length cs.length)
  have hO5 := hO.other (p := ⟨b, 5, none⟩) (by show gL ≠ b; omega) (.slice (some ⟨gL, 0, none⟩) cs.length cs.length)
  have hu5 := (hu13.then hu34).setCell (p := ⟨b, 5, none⟩) (.inr hb) (.slice (some ⟨gL, 0, none⟩) cs.length cs.length)
  clear hown4 hgrow4 hO hp1 h01 hT1 hu1 c3 f3 hp2 hT2 h02 hu2 ISO hp3 hm3 hs3 hu3 LEN hu13 h03 hT3 hu34 hp4 C1
  go_wp2
  clear c5 f5
  generalize w4.setCell ⟨b, 5, none⟩ (.slice (some ⟨gL, 0, none⟩) cs.length cs.length) = w5 at *
  have hP5 : Par w5 b (.slice (some ⟨g0, 0, none⟩) cs.length k0) (.slice none 0 0) (.slice none 0 0) a (.slice (some ⟨gT, 0, none⟩) cs.length kT) (.slice (some ⟨gL, 0, none⟩) cs.length cs.length) (.slice (some ⟨gm, 0, none⟩) cs.length cs.length) (.slice (some ⟨gs, 0, none⟩) cs.length cs.length) := hp5
  have c5 := hP5.cells.c5
  have c3 := hP5.cells.c3
  have SL : Hid (Calls Tryz.prog 103 #[.slice (some ⟨gL, 0, none⟩) cs.length cs.length, .int .i8 a] w5.drew fun e w' => e = .returned (.tuple #[]) ∧ Row w' gL 112 (nums .i8 (List.replicate cs.length a)) ∧ Upd [gL] w5 w') :=
    (setLevels_any gL cs.length cs.length (List.replicate cs.length 0) a w5.drew hO5.drew (by simp) hm).mono fun _ _ ⟨a1, a2, a3⟩ => ⟨a1, a2, ((Upd.refl [gL] w5).drew).trans a3⟩
  have HP5 := Lib.hid hP5
  have e5 : w5.drew.cell? ⟨b, 5, none⟩ = some (.slice (some ⟨gL, 0, none⟩) cs.length cs.length) := c5
  have e3 : w5.drew.cell? ⟨b, 3, none⟩ = some (.int .i8 a) := c3
  have hbL : b ≠ gL := by omega
  clear hp5 hP5
  go_region_held3 (fun w' => w'.cell? ⟨b, 5, none⟩ = some (.slice (some ⟨gL, 0, none⟩) cs.length cs.length) ∧ w'.cell? ⟨b, 3, none⟩ = some (.int .i8 a))
    (first | with_reducible exact ⟨e5, e3⟩ | with_reducible exact ⟨d5, d3⟩)
    (first | (go_at_call 103; with_reducible refine SL.out.mono ?_; rintro e w6 ⟨rfl, hr6, hu6⟩; have hp6 := Par.upd HP5.out hu6 (by simpa using hbL); have d5 := hp6.cells.c5; have d3 := hp6.cells.c3))
  have hu56 : Upd [] w w6 := hu5.step hu6 fun t ht => .inr (by simp at ht; omega)
  have h06 := h05.upd hu6 (by simp; omega)
  have hT6 := hT5.upd hu6 (by simp; omega)
  have hm6 := hm5.upd hu6 (by simp; omega)
  have hs6 := hs5.upd hu6 (by simp; omega)
  have hgsT : gs ≠ gT := hs6.ne_type hT6 (by decide)
  have EXP : Hid (Calls Tryz.prog 104 #[.pointer (some ⟨b, 0, none⟩)] w6 fun x w' => x = .returned (.tuple #[]) ∧ ∃ st, XF ⟨b, gT, kT, gL, cs.length, gm, w6.heap.size, .slice (some ⟨g0, 0, none⟩) cs.length k0, .slice none 0 0, .slice none 0 0, .slice (some ⟨gs, 0, none⟩) cs.length cs.length, a, cs.length⟩ w6 w' (mt cs) (ptys cs a) (plvs cs a) st) :=
    explicit_any ⟨b, gT, kT, gL, cs.length, gm, w6.heap.size, .slice (some ⟨g0, 0, none⟩) cs.length k0, .slice none 0 0, .slice none 0 0, .slice (some ⟨gs, 0, none⟩) cs.length cs.length, a, cs.length⟩ cs w6 rfl HA.out HB.out hm rfl hp6 hT6 hr6 hm6
  clear SL HP5 h05 hT5 hm5 hs5 hO5 hu5 hu6 c5 c3 e5 e3 d5 d3 hp6 hT6 hr6 hm6
  go_wp2_with (first
    | (go_at_call 104; refine EXP.out.mono ?_; rintro e w7 ⟨rfl, st, hX⟩))
  go_ret
  have hup := hX.up
  refine ⟨b, g0, k0, gT, kT, gL, gm, gs, rfl, hb, hg0, hgT, hgLw, hX.par, h06.upd hup (by simp; omega), hX.rt, hX.rl, hX.rm, hs6.upd hup (by simp; omega), hu56.step hup fun t ht => .inr (by simp at ht; rcases ht with rfl | rfl <;> assumption)⟩
end Go.Proofs.YtjahmnenfknjgaaGreatDoor
namespace Go.Proofs.YtjahmnenfknjgaaGreatDoor
open Go.RowKit

set_option maxHeartbeats 8000000 in
set_option maxRecDepth 100000 in
theorem explicitX_any (gx c : Nat) (cs : List Cl) (a : Int) (w : World) (hr : Row w gx 77 (clsU cs)) (ha : a = 0 ∨ a = 1) (hB : ∀ i, i < cs.length → cat cs i = .B → i + 1 = cs.length) (hm : cs.length ≤ 2147483647) :
    Calls Tryz.prog 44 #[.slice (some ⟨gx, 0, none⟩) cs.length c, .int .i8 a] w fun e w' => ∃ gT kT gN, e = .returned (.tuple #[.slice (some ⟨gT, 0, none⟩) cs.length kT, .slice (some ⟨gN, 0, none⟩) cs.length cs.length]) ∧
      Row w' gT 77 (clsU (ptys cs a)) ∧ Row w' gN 60 (nums .i8 (plvs cs a)) ∧ Upd [] w w' := by
  have C1 := mkExplicit_any gx c cs a w hr ha hB hm
  clear hr ha hB
  obtain ⟨L, hL⟩ : ∃ L, L = plvs cs a := ⟨_, rfl⟩
  rw [← hL]
  have HL := Lib.hid hL
  clear hL
  go_enter Tryz.func44, Tryz.ntmps44
  go_upto_region 2 with (go_at_call 82; refine C1.mono ?_; rintro e w1 ⟨b, g0, k0, gT, kT, gL, gm, gs, rfl, hb, hg0, hgT, hgL, hP, h0, zT, zL, hmm, hss, hu1⟩)
  have d4 := hP.cells.c4
  have d5 := hP.cells.c5
  rw [← HL.out] at zL
  have hLl : L.length = cs.length := by rw [HL.out, plvs_length]
  have NUM : Hid (Calls Tryz.prog 81 #[.slice (some ⟨gL, 0, none⟩) cs.length cs.length] w1.drew fun e w' => ∃ gN, e = .returned (.slice (some ⟨gN, 0, none⟩) cs.length cs.length) ∧ Row w' gN 60 (nums .i8 L) ∧ Upd [] w1 w') := by
    have h := numbers_any (some ⟨gL, 0, none⟩) cs.length L w1.drew (Rd.of_row zL.drew) (by omega)
    rw [hLl] at h
    exact h.mono fun _ _ ⟨a1, a2, a3⟩ => ⟨_, a1, a2, ((Upd.refl [] w1).drew).trans a3⟩
  have e4 : w1.drew.cell? ⟨b, 4, none⟩ = some (.slice (some ⟨gT, 0, none⟩) cs.length kT) := d4
  have e5 : w1.drew.cell? ⟨b, 5, none⟩ = some (.slice (some ⟨gL, 0, none⟩) cs.length cs.length) := d5
  have HPP := Lib.hid hP
  clear hP h0 hLl C1
  go_region_held3 (fun w' => w'.cell? ⟨b, 4, none⟩ = some (.slice (some ⟨gT, 0, none⟩) cs.length kT) ∧ w'.cell? ⟨b, 5, none⟩ = some (.slice (some ⟨gL, 0, none⟩) cs.length cs.length))
    (first | with_reducible exact ⟨e4, e5⟩ | with_reducible exact ⟨f4, f5⟩)
    (first | (go_at_call 81; refine NUM.out.mono ?_; rintro e w4 ⟨gN, rfl, hn4, hu4⟩; have hp4 := Par.upd HPP.out hu4 (by simp); have f4 := hp4.cells.c4; have f5 := hp4.cells.c5))
  all_goals (try go_wp2)
  refine bodyPost_ret (v := .tuple #[.slice (some ⟨gT, 0, none⟩) cs.length kT, .slice (some ⟨gN, 0, none⟩) cs.length cs.length]) (by simp [results, Tryz.results44, go_sem]) rfl ?_
  exact ⟨gT, kT, gN, rfl, zT.upd hu4 (by simp), hn4, hu1.trans hu4⟩

set_option maxHeartbeats 8000000 in
set_option maxRecDepth 100000 in
theorem iExplicit_any (A1 : Option Addr) (c1 : Nat) (cs : List Cl) (a : Int) (w : World) (hT : Tab w) (h1 : Rd w A1 (nums .i64 (clsI cs))) (ha : a = 0 ∨ a = 1) (hB : ∀ i, i < cs.length → cat cs i = .B → i + 1 = cs.length) (hm : cs.length ≤ 2147483647) :
    Calls Tryz.prog 13 #[.slice A1 cs.length c1, .int .i64 a] w fun e w' => ∃ g1 g2, e = .returned (.tuple #[.slice (some ⟨g1, 0, none⟩) cs.length cs.length, .slice (some ⟨g2, 0, none⟩) cs.length cs.length]) ∧
      Row w' g1 3 (nums .i64 (clsI (ptys cs a))) ∧ w.heap.size ≤ g1 ∧ Upd [] w w' := by
  have C1 := classesOf_any A1 c1 cs w hT h1 hm
  have hw8 : IntKind.i8.wrap a = a := by rcases ha with h | h <;> rw [h] <;> rfl
  have X1 : Hid (∀ g W, Row W g 77 (clsU cs) → Calls Tryz.prog 44 #[.slice (some ⟨g, 0, none⟩) cs.length cs.length, .int .i8 a] W fun e w' => ∃ gT kT gN, e = .returned (.tuple #[.slice (some ⟨gT, 0, none⟩) cs.length kT, .slice (some ⟨gN, 0, none⟩) cs.length cs.length]) ∧
      Row w' gT 77 (clsU (ptys cs a)) ∧ Row w' gN 60 (nums .i8 (plvs cs a)) ∧ Upd [] W w') := fun g W hr => explicitX_any g cs.length cs a W hr ha hB hm
  have N1 : Hid (∀ g k W, Upd [] w W → Row W g 77 (clsU (ptys cs a)) → ∃ h, w.heap.size ≤ h ∧ Calls Tryz.prog 42 #[.slice (some ⟨g, 0, none⟩) cs.length k] W fun e w' => e = .returned (.slice (some ⟨h, 0, none⟩) cs.length cs.length) ∧ Row w' h 3 (nums .i64 (clsI (ptys cs a))) ∧ Upd [] W w') := fun g k W hW hr => by
    refine ⟨W.heap.size, hW.size, ?_⟩
    have h := numbersOf_any (some ⟨g, 0, none⟩) k (ptys cs a) W (hT.upd hW (by simp)) (Rd.of_row hr) (by rw [ptys_length]; omega)
    rw [ptys_length] at h; exact h
  have N2 : Hid (∀ g k W, Upd [] w W → Row W g 60 (nums .i8 (plvs cs a)) → ∃ h, Calls Tryz.prog 43 #[.slice (some ⟨g, 0, none⟩) cs.length k] W fun e w' => e = .returned (.slice (some ⟨h, 0, none⟩) cs.length cs.length) ∧ Row w' h 3 (nums .i64 (plvs cs a)) ∧ Upd [] W w') := fun g k W hW hr => by
    refine ⟨W.heap.size, ?_⟩
    have h := largeOf_any (some ⟨g, 0, none⟩) k (plvs cs a) W (Rd.of_row hr) (by rw [plvs_length]; omega) (fun j hj => by rw [plvs_length] at hj; rw [nth_plvs hj]; have := plv_range (cs := cs) ha j; omega)
    rw [plvs_length] at h; exact h
  clear hT h1 hB ha
  obtain ⟨gw, hgw⟩ : ∃ gw, gw = w.heap.size := ⟨_, rfl⟩
  rw [← hgw] at C1
  have HGW := Lib.hid hgw
  clear hgw
  go_enter Tryz.func13, Tryz.ntmps13
  go_wp2_with (first
    | (go_at_call 39; refine C1.mono ?_; rintro e w1 ⟨rfl, r1, u1⟩; have k2 := X1.out gw w1 r1)
    | (go_at_call 44; refine k2.mono ?_; rintro e w2 ⟨gT, kT, gN, rfl, r2, r3, u2⟩; have u12 := u1.trans u2; obtain ⟨b5, hb5, k5⟩ := N1.out gT kT w2 u12 r2)
    | (go_at_call 42; refine k5.mono ?_; rintro e w5 ⟨rfl, r5, u5⟩; have u15 := u12.trans u5; obtain ⟨b6, k6⟩ := N2.out gN cs.length w5 u15 (r3.upd u5 (by simp)))
    | (go_at_call 43; refine k6.mono ?_; rintro e w6 ⟨rfl, r6, u6⟩))
  refine bodyPost_ret (v := .tuple #[.slice (some ⟨b5, 0, none⟩) cs.length cs.length, .slice (some ⟨b6, 0, none⟩) cs.length cs.length]) (by simp [results, Tryz.results13, go_sem]) rfl ?_
  exact ⟨b5, b6, rfl, r5.upd u6 (by simp), hb5, u15.trans u6⟩
end Go.Proofs.YtjahmnenfknjgaaGreatDoor
namespace Go.Proofs.YtjahmnenfknjgaaGreatDoor
open Go.RowKit

theorem info79 : (Tryz.prog.info? 79).map (fun i => (i.zero, i.size, i.bytes)) = some (some (.agg #[.slice none 0 0, .int .i8 0, .int .u64 0, .int .u64 0]), 4, 48) := by kernel_rfl
/-- A sequence's four cells, handed out. -/
def sqOut (cs T : List Cl) (V : List Int) (a : Int) (r : CR) : List Value :=
  [.slice (some ⟨r.gi, 0, none⟩) r.pl.length r.ic, .int .i8 (chnP cs V T a r.pl).lev, .int .u64 (chnP cs V T a r.pl).so.e2, .int .u64 (chnP cs V T a r.pl).eo.e2]
def sqOuts (cs T : List Cl) (V : List Int) (a : Int) (R : List CR) : List Value := R.flatMap (sqOut cs T V a)
theorem sqOuts_snoc (cs T : List Cl) (V : List Int) (a : Int) {R : List CR} {j : Nat} (h : j < R.length) : sqOuts cs T V a (R.take (j + 1)) = sqOuts cs T V a (R.take j) ++ sqOut cs T V a R[j] := by
  unfold sqOuts; rw [List.take_add_one, List.getElem?_eq_getElem h, List.flatMap_append]; congr 1
theorem sqOuts_length (cs T : List Cl) (V : List Int) (a : Int) (R : List CR) : (sqOuts cs T V a R).length = R.length * 4 := by
  induction R with
  | nil => rfl
  | cons r R ih => simp only [sqOuts, List.flatMap_cons, List.length_append, List.length_cons] at ih ⊢; rw [ih]; simp [sqOut]; omega
theorem quad_at (w : World) (n : Nat) (hn : n = w.heap.size) (u1 u2 u3 u4 : Value) (ty : TypeId) : ∀ j v, [u1, u2, u3, u4][j]? = some v → (w.alloc (.cells #[u1, u2, u3, u4] ty)).cell? ((⟨n, 0, none⟩ : Addr).add j) = some v := by
  subst hn
  intro j v hj
  match j, hj with
  | 0, hj => simp at hj; subst hj; simp [Addr.add]
  | 1, hj => simp at hj; subst hj; simp [Addr.add]
  | 2, hj => simp at hj; subst hj; simp [Addr.add]
  | 3, hj => simp at hj; subst hj; simp [Addr.add]
  | n + 4, hj => simp at hj
theorem quad_one {A : Option Addr} {n c : Nat} {x y z : Value} (hx : x.oneCell' = true) (hy : y.oneCell' = true) (hz : z.oneCell' = true) : ∀ u ∈ [Value.slice A n c, x, y, z], u.oneCell' = true := by
  intro u hu
  simp only [List.mem_cons, List.not_mem_nil, or_false] at hu
  rcases hu with rfl | rfl | rfl | rfl
  · rfl
  · exact hx
  · exact hy
  · exact hz
/-- What Sequences hands back: the sequences' places lie in blocks of their own. -/
def RetSq (w : World) (cs : List Cl) (a : Int) (e : Ending) (w' : World) : Prop :=
  ∃ (v : Value) (R : List CR), e = .returned v ∧ R.map CR.pl = chnsP cs (klv cs (plvs cs a)) ∧ w'.ownsRow w.heap.size 79 4 v R.length (sqOuts cs (ptys cs a) (plvs cs a) a R) ∧ (∀ r, r ∈ R → Row w' r.gi 3 (nums .i64 (nats r.pl)) ∧ w.heap.size ≤ r.gi) ∧ Upd [] w w'

set_option maxHeartbeats 8000000 in
set_option maxRecDepth 100000 in
theorem seqs_any (gx c : Nat) (cs : List Cl) (a : Int) (w : World) (hr : Row w gx 77 (clsU cs)) (ha : a = 0 ∨ a = 1) (hB : ∀ i, i < cs.length → cat cs i = .B → i + 1 = cs.length) (hm : cs.length ≤ 2147483647) :
    Calls Tryz.prog 45 #[.slice (some ⟨gx, 0, none⟩) cs.length c, .int .i8 a] w (RetSq w cs a) := by
  have C1 := mkExplicit_any gx c cs a w hr ha hB hm
  obtain ⟨i0, hi', hz0, hz1, hz2⟩ := info_parts info79
  obtain ⟨T0, hT0⟩ : ∃ T0, T0 = ptys cs a := ⟨_, rfl⟩
  obtain ⟨V0, hV0⟩ : ∃ V0, V0 = plvs cs a := ⟨_, rfl⟩
  unfold RetSq
  unfold RetExp at C1
  rw [← hT0, ← hV0] at C1 ⊢
  have hT0l : T0.length = cs.length := by rw [hT0, ptys_length]
  have hV0l : V0.length = cs.length := by rw [hV0, plvs_length]
  have HVR : Hid (∀ q, q < cs.length → (cat cs q).isRem = false → 0 ≤ nth V0 q ∧ nth V0 q ≤ 125) := fun q hq _ => by rw [hV0, nth_plvs hq]; exact plv_range ha q
  have HA := Lib.hid ha
  have hcnt : (chnsP cs (klv cs V0)).length ≤ cs.length := by
    unfold chnsP
    rw [List.length_map]
    have h1 := List.length_filter_le (begins cs) (runs (klv cs V0))
    have h2 := rst_len (klv cs V0) (klv cs V0).length
    rw [klv_length] at h2
    have h3 : (runs (klv cs V0)).length = (rst (klv cs V0) cs.length).1.length := by unfold runs; rw [klv_length]
    omega
  clear hr ha hB hT0 hV0
  go_enter Tryz.func45, Tryz.ntmps45
  go_wp2_with (first
    | (go_at_call 82; refine C1.mono ?_; rintro e w1 ⟨b, g0, k0, gT, kT, gL, gm, gs, rfl, hb, hg0, hgT, hgL, hP, h0, zT, zL, zm, zs, hu1⟩; have SQ := sequences_any b g0 k0 gT kT gL cs.length gm gs _ _ a cs T0 V0 w1 hP h0 zT zL zm zs hT0l hV0l HVR.out HA.out hm)
    | (go_at_call 83; refine SQ.mono ?_; rintro e w2 ⟨g, cap, R, rfl, hRl, hrow, hCR, hgg, hu2⟩))
  have hRn : R.length ≤ cs.length := by
    have := congrArg List.length hRl
    rw [List.length_map] at this; omega
  have hu12 := hu1.trans hu2
  have HOK : Hid (∀ r, r ∈ R → r.Ok w2 w.heap.size b cs T0 V0 a) := fun r hr => by
    have h := hCR.ok r hr
    have hs := hu1.size
    exact ⟨h.1, h.2.1, h.2.2.1, by have := h.2.2.2.1; omega, by have := h.2.2.2.2.1; omega, by have := h.2.2.2.2.2; omega⟩
  have HRL := Lib.hid hRl
  have HRow := Lib.hid hrow
  have hlw : w.heap.size ≤ w2.heap.size := hu12.size
  clear hRl hCR hP h0 zT zL zm zs hT0l hV0l SQ C1 hrow hu1 hu2 hcnt
  go_loopg [5, 13] (R.length + 1) (fun k v i wr => ∃ j : Nat, i = .int .i64 j ∧ j ≤ R.length ∧ wr.ownsRow w2.heap.size 79 4 v j (sqOuts cs T0 V0 a (R.take j)) ∧ Upd [] w2 wr ∧ Hid (R.length + 1 - j ≤ k))
  case atStart => exact ⟨0, rfl, by omega, World.ownsRow_nil _ _ _ _, Upd.refl _ _, Nat.le_refl _⟩
  case round =>
    obtain ⟨j, rfl, hj, hown, hu, hk⟩ := hrel
    by_cases hlt : j < R.length
    · have hrow := HRow.out.upd hu (by simp)
      have hOK := HOK.out R[j] (List.getElem_mem hlt)
      have hS0 := hOK.1
      obtain ⟨XT, hXT⟩ : ∃ XT, XT = Value.slice (some ⟨R[j].gt, 0, none⟩) R[j].pl.length R[j].pl.length := ⟨_, rfl⟩
      rw [← hXT] at hS0
      clear hXT
      have hS := hS0.upd hu (by simp)
      have hc0 : wr.cell? ⟨g, j, none⟩ = some (.pointer (some ⟨R[j].q, 0, none⟩)) := by
        have h := hrow.cell j (by simpa using hlt)
        rw [List.getElem_map] at h; exact h
      have e1 := hS.cells.c1
      have e4 := hS.cells.c4
      have e5 := hS.cells.c5
      have e6 := hS.cells.c6
      have HSN := sqOuts_snoc cs T0 V0 a hlt
      unfold sqOut at HSN
      have hlen := sqOuts_length cs T0 V0 a (R.take j)
      rw [List.length_take, Nat.min_eq_left hj] at hlen
      obtain ⟨r, hre⟩ : ∃ r, r = R[j] := ⟨_, rfl⟩
      rw [← hre] at hc0 e1 e4 e5 e6 HSN hS0
      obtain ⟨xs, hxs⟩ : ∃ xs, xs = sqOuts cs T0 V0 a (R.take j) := ⟨_, rfl⟩
      rw [← hxs] at hown hlen HSN
      generalize (chnP cs V0 T0 a r.pl).lev = lv at e4 HSN hS0
      generalize (chnP cs V0 T0 a r.pl).so = so at e5 HSN hS0
      generalize (chnP cs V0 T0 a r.pl).eo = eo at e6 HSN hS0
      have HS2 := Lib.hid HSN
      have HS := Lib.hid hS0
      have HU := Lib.hid hu
      clear hrow hOK hS0 hS HSN hre hxs hu
      go_upto_region 5 with fail
      have hu1 : Upd [] w2 (wr.alloc (.cells #[.slice (some ⟨r.gi, 0, none⟩) r.pl.length r.ic, .int .i8 lv, .int .u64 so.e2, .int .u64 eo.e2] 79)).drew := (HU.out.alloc _).drew
      have hA := Sq.upd HS.out hu1 (by simp)
      have HU1 := Lib.hid hu1
      have d1 : wr.drew.cell? ⟨r.q, 1, none⟩ = some (.slice (some ⟨r.gi, 0, none⟩) r.pl.length r.ic) := e1
      have d4 : wr.drew.cell? ⟨r.q, 4, none⟩ = some (.int .i8 lv) := e4
      have d5 : wr.drew.cell? ⟨r.q, 5, none⟩ = some (.int .u64 so.e2) := e5
      have d6 : wr.drew.cell? ⟨r.q, 6, none⟩ = some (.int .u64 eo.e2) := e6
      have x1 := hA.cells.c1
      have x4 := hA.cells.c4
      have x5 := hA.cells.c5
      have x6 := hA.cells.c6
      have HO : Hid (wr.ownsRow w2.heap.size 79 4 u5 j xs) := hown
      have hsz : w2.heap.size ≤ wr.heap.size := HU.out.size
      clear hA hu1 hown
      go_region_held3 (fun w' => w'.cell? ⟨r.q, 1, none⟩ = some (.slice (some ⟨r.gi, 0, none⟩) r.pl.length r.ic) ∧ w'.cell? ⟨r.q, 4, none⟩ = some (.int .i8 lv) ∧ w'.cell? ⟨r.q, 5, none⟩ = some (.int .u64 so.e2) ∧ w'.cell? ⟨r.q, 6, none⟩ = some (.int .u64 eo.e2))
        (first | with_reducible exact ⟨d1, d4, d5, d6⟩ | with_reducible exact ⟨x1, x4, x5, x6⟩ | exact ⟨y1, y4, y5, y6⟩)
        (first | (refine step_append_lies _ rfl (.tmp 17) (.tmp 35) 74 rfl w2.heap.size 79 i0 (.agg #[.slice none 0 0, .int .i8 0, .int .u64 0, .int .u64 0]) 4 48 Tryz.underlying74 hi' hz0 hz1 hz2 rfl (by decide) u5 j xs (by simp [Act.eval, Act.put]) (World.ownsRow.drewN (World.ownsRow.alloc HO.out _) 1) ⟨wr.heap.size, 0, none⟩ 1 1 [.slice (some ⟨r.gi, 0, none⟩) r.pl.length r.ic, .int .i8 lv, .int .u64 so.e2, .int .u64 eo.e2] (by simp [Act.eval, Act.put]) rfl (quad_at _ _ rfl _ _ _ _ _) (quad_one rfl rfl rfl) (by decide) (by unfold maxLen; omega) (by omega) (by simp; omega) _ rfl ?_; intro g5 cp5 w5 hown5 hgrow5 hat5 hlt5; have hu5 : Upd [] w2 w5 := HU1.out.grown hgrow5 (fun k e => .inr (HO.out.lt k e).1); have hB := Sq.upd HS.out hu5 (by simp); have y1 := hB.cells.c1; have y4 := hB.cells.c4; have y5 := hB.cells.c5; have y6 := hB.cells.c6))
      have hfin : w5.ownsRow w2.heap.size 79 4 (.slice (some ⟨g5, 0, none⟩) (j + 1) cp5) (j + 1) (sqOuts cs T0 V0 a (R.take (j + 1))) := by rw [HS2.out]; exact hown5
      clear y1 y4 y5 y6 x1 x4 x5 x6 d1 d4 d5 d6 hB hgrow5 hat5 hown5 HO e1 e4 e5 e6 hc0
      try go_wp2
      go_roundg (R.length + 1 - (j + 1))
      case measure => have := hk.out; omega
      case rel => exact ⟨j + 1, by go_num, by omega, hfin, hu5, Nat.le_refl _⟩
    · obtain rfl : j = R.length := by omega
      have hfin : wr.ownsRow w.heap.size 79 4 u5 R.length (sqOuts cs T0 V0 a R) := by
        rw [List.take_length] at hown
        refine ⟨hown.1, ?_⟩
        rcases hown.2 with h | ⟨g', cap', cur, h1, h2, h3⟩
        · exact .inl h
        · exact .inr ⟨g', cap', cur, h1, Nat.le_trans hlw h2, h3⟩
      have HFN := Lib.hid hfin
      clear hfin hown
      try go_wp2
      go_ret
      exact ⟨_, R, rfl, HRL.out, HFN.out, fun r hr => ⟨(HOK.out r hr).2.1.upd hu (by simp), (HOK.out r hr).2.2.2.2.2⟩, hu12.trans hu⟩
end Go.Proofs.YtjahmnenfknjgaaGreatDoor
namespace Go.Proofs.YtjahmnenfknjgaaGreatDoor
open Go.RowKit

theorem info36 : (Tryz.prog.info? 36).map (fun i => (i.zero, i.size, i.bytes)) = some (some (.agg #[.slice none 0 0, .int .i64 0, .int .i64 0, .int .i64 0]), 4, 48) := by kernel_rfl
/-- A sequence of impl: where its places lie. -/
structure IR where
  g : Nat
  c : Nat
  pl : List Nat
def iOut (cs T : List Cl) (V : List Int) (a : Int) (r : IR) : List Value :=
  [.slice (some ⟨r.g, 0, none⟩) r.pl.length r.c, .int .i64 (chnP cs V T a r.pl).lev, .int .i64 (chnP cs V T a r.pl).so.e1, .int .i64 (chnP cs V T a r.pl).eo.e1]
def iOuts (cs T : List Cl) (V : List Int) (a : Int) (R : List IR) : List Value := R.flatMap (iOut cs T V a)
theorem iOuts_snoc (cs T : List Cl) (V : List Int) (a : Int) (R : List IR) (r : IR) : iOuts cs T V a (R ++ [r]) = iOuts cs T V a R ++ iOut cs T V a r := by simp [iOuts]
theorem iOuts_length (cs T : List Cl) (V : List Int) (a : Int) (R : List IR) : (iOuts cs T V a R).length = R.length * 4 := by
  induction R with
  | nil => rfl
  | cons r R ih => simp only [iOuts, List.flatMap_cons, List.length_append, List.length_cons] at ih ⊢; rw [ih]; simp [iOut]; omega
theorem quad_get {α : Type} (f : α → List Value) (hf : ∀ x, (f x).length = 4) : ∀ (l : List α) (j k : Nat) (h : j < l.length), k < 4 → (l.flatMap f)[j * 4 + k]? = (f l[j])[k]?
  | [], j, k, h, _ => by simp at h
  | x :: l, 0, k, h, hk => by
    rw [List.flatMap_cons, List.getElem?_append_left (by rw [hf]; omega)]; simp
  | x :: l, j + 1, k, h, hk => by
    rw [List.flatMap_cons, List.getElem?_append_right (by rw [hf]; omega), hf, show (j + 1) * 4 + k - 4 = j * 4 + k by omega, quad_get f hf l j k (by simpa using h) hk]; rfl
theorem owns_form {w : World} {base : Nat} {e : TypeId} {size : Nat} {v : Value} {n : Nat} {xs : List Value} (h : w.ownsRow base e size v n xs) : ∃ A cp, v = .slice A n cp ∧ (0 < n → ∃ g, A = some ⟨g, 0, none⟩ ∧ Row w g e xs ∧ base ≤ g) := by
  rcases h.2 with ⟨h0, h1⟩ | ⟨g, cap, cur, hv, hb, hr⟩
  · subst h1; exact ⟨none, 0, by rw [h0], fun hp => by omega⟩
  · exact ⟨some ⟨g, 0, none⟩, cap, hv, fun _ => ⟨g, rfl, Row.of_owns (hv ▸ h), hb⟩⟩
theorem own_row {w : World} {base : Nat} {e : TypeId} {size : Nat} {v : Value} {n k : Nat} {xs : List Value} (h : w.ownsRow base e size v n xs) (hk : v.ownBlock = some k) : Row w k e xs := by
  rcases h.2 with ⟨h0, _⟩ | ⟨g, cap, cur, hv, _⟩
  · subst h0; cases hk
  · subst hv
    have : g = k := by simpa [Value.ownBlock] using hk
    subst this; exact Row.of_owns h

set_option maxHeartbeats 8000000 in
set_option maxRecDepth 100000 in
theorem iSeqs_any (A1 : Option Addr) (c1 : Nat) (cs : List Cl) (a : Int) (w : World) (hT : Tab w) (h1 : Rd w A1 (nums .i64 (clsI cs))) (ha : a = 0 ∨ a = 1) (hB : ∀ i, i < cs.length → cat cs i = .B → i + 1 = cs.length) (hm : cs.length ≤ 2147483647) :
    Calls Tryz.prog 14 #[.slice A1 cs.length c1, .int .i64 a] w fun e w' => ∃ (v : Value) (R : List IR), e = .returned v ∧ R.map IR.pl = chnsP cs (klv cs (plvs cs a)) ∧ w'.ownsRow w.heap.size 36 4 v R.length (iOuts cs (ptys cs a) (plvs cs a) a R) ∧ (∀ r, r ∈ R → Row w' r.g 3 (nums .i64 (nats r.pl)) ∧ w.heap.size ≤ r.g) ∧ Upd [] w w' := by
  have K1 : Hid (∀ W, Upd [] w W → ∃ g, w.heap.size ≤ g ∧ Calls Tryz.prog 39 #[.slice A1 cs.length c1] W fun e w' => e = .returned (.slice (some ⟨g, 0, none⟩) cs.length cs.length) ∧ Row w' g 77 (clsU cs) ∧ Upd [] W w') := fun W hW =>
    ⟨W.heap.size, hW.size, classesOf_any A1 c1 cs W (hT.upd hW (by simp)) (h1.keep hW) hm⟩
  have hw8 : IntKind.i8.wrap a = a := by rcases ha with h | h <;> rw [h] <;> rfl
  obtain ⟨i0, hi', hz0, hz1, hz2⟩ := info_parts info36
  have hpl : ∀ pl, pl ∈ chnsP cs (klv cs (plvs cs a)) → 0 < pl.length ∧ pl.length ≤ cs.length ∧ 0 ≤ (chnP cs (plvs cs a) (ptys cs a) a pl).lev ∧ (chnP cs (plvs cs a) (ptys cs a) a pl).lev ≤ 125 := fun pl h => by
    obtain ⟨_, h2, h3, h4⟩ := chn_mem (fun q hq _ => by rw [nth_plvs hq]; exact (plv_range ha q).1) h
    have hf := h3 _ (first_mem h2)
    have := plv_range (cs := cs) ha (nat pl 0)
    refine ⟨List.length_pos_iff.2 h2, h4, ?_⟩
    unfold chnP; simp only; rw [nth_plvs hf.1]; exact this
  have hcnt : (chnsP cs (klv cs (plvs cs a))).length ≤ cs.length := by
    unfold chnsP
    rw [List.length_map]
    have h1 := List.length_filter_le (begins cs) (runs (klv cs (plvs cs a)))
    have h2 := rst_len (klv cs (plvs cs a)) (klv cs (plvs cs a)).length
    have h3 : (runs (klv cs (plvs cs a))).length = (rst (klv cs (plvs cs a)) (klv cs (plvs cs a)).length).1.length := rfl
    rw [klv_length] at h2 h3
    omega
  have S1 : Hid (∀ g W, Row W g 77 (clsU cs) → Calls Tryz.prog 45 #[.slice (some ⟨g, 0, none⟩) cs.length cs.length, .int .i8 a] W (RetSq W cs a)) := fun g W hr => seqs_any g cs.length cs a W hr ha hB hm
  unfold RetSq at S1
  obtain ⟨T0, hT0⟩ : ∃ T0, T0 = ptys cs a := ⟨_, rfl⟩
  obtain ⟨V0, hV0⟩ : ∃ V0, V0 = plvs cs a := ⟨_, rfl⟩
  rw [← hT0, ← hV0] at S1 hpl ⊢
  rw [← hV0] at hcnt
  have HPL := Lib.hid hpl
  have HT := Lib.hid hT
  obtain ⟨w0, hw0⟩ : ∃ w0, w0 = w.alloc (.cells #[] 36) := ⟨_, rfl⟩
  have hu0 : Upd [] w w0 := by rw [hw0]; exact (Upd.refl _ _).alloc _
  have hown0 : w0.ownsRow w.heap.size 36 4 (.slice (some ⟨w.heap.size, 0, none⟩) 0 0) 0 [] := by rw [hw0]; exact World.ownsRow_lit (base := w.heap.size) (e := 36) (size := 4) w #[] 0 (Nat.le_refl _) (by decide) rfl
  obtain ⟨g1, hg1, k1⟩ := K1.out w0 hu0
  have HO0 := Lib.hid hown0
  clear h1 ha hB hT0 hV0 hpl hT hown0
  go_enter Tryz.func14, Tryz.ntmps14
  go_upto_region 2 with fail
  rw [← hw0]
  clear hw0
  go_wp2_with (first
    | (go_at_call 39; refine k1.mono ?_; rintro e w1 ⟨rfl, r1, u1⟩; have u01 := hu0.trans u1; have k2 := S1.out g1 w1 r1)
    | (go_at_call 45; refine k2.mono ?_; rintro e w2 ⟨v, R, rfl, hRl, hv, hR, u2⟩; have u02 := u01.trans u2; obtain ⟨A, cp, rfl, hAF⟩ := owns_form hv))
  have hRn : R.length ≤ cs.length := by
    have := congrArg List.length hRl
    rw [List.length_map] at this; omega
  have HAF := Lib.hid hAF
  have HRL := Lib.hid hRl
  have HR := Lib.hid hR
  have HU := Lib.hid u02
  have hsz2 := u2.size
  have hsz1 := u01.size
  have hg1lt := r1.lt
  have HO2 := own_upd HO0.out (u1.trans u2) (by simp)
  have hgl : w.heap.size < w1.heap.size := by have := (HO0.out.lt _ rfl).2; have := u1.size; omega
  have hst : Row w2 w.heap.size 36 [] := Row.of_owns HO2
  clear hAF hRl hR hv u02 k1 k2 r1 u1 u2 u01
  go_loopg [5, 15] (R.length + 1) (fun k v i wr => ∃ (j : Nat) (L : List IR), i = .int .i64 j ∧ j ≤ R.length ∧ Hid (L.map IR.pl = (R.take j).map CR.pl) ∧ wr.ownsRow w.heap.size 36 4 v j (iOuts cs T0 V0 a L) ∧ Hid (∀ r, r ∈ L → Row wr r.g 3 (nums .i64 (nats r.pl)) ∧ w.heap.size ≤ r.g) ∧ Hid (Upd [] w wr) ∧ Hid (Upd [w.heap.size] w2 wr) ∧ Hid (∀ k, v.ownBlock = some k → k = w.heap.size ∨ w2.heap.size ≤ k) ∧ Hid (R.length + 1 - j ≤ k))
  case atStart => exact ⟨0, [], rfl, by omega, rfl, HO2, fun r hr => by simp at hr, HU.out, Upd.refl _ _, fun k e => by cases e; exact .inl rfl, Nat.le_refl _⟩
  case round =>
    obtain ⟨j, L, rfl, hj, HLp, hown, HLr, hu, hu2, HOB, hk⟩ := hrel
    by_cases hlt : j < R.length
    · obtain ⟨gA, rfl, hrow, hgA⟩ := HAF.out (by omega)
      have hrowr := hrow.upd hu2.out (by simp; omega)
      have hgget : ∀ k, (hk4 : k < 4) → wr.cell? ⟨gA, j * 4 + k, none⟩ = (sqOut cs T0 V0 a R[j])[k]? := fun k hk4 => by
        have hl := sqOuts_length cs T0 V0 a R
        have h := hrowr.cell (j * 4 + k) (by omega)
        rw [h, ← List.getElem?_eq_getElem]
        exact quad_get _ (fun _ => rfl) R j k hlt hk4
      have q0 := hgget 0 (by decide)
      have q1 := hgget 1 (by decide)
      have q2 := hgget 2 (by decide)
      have q3 := hgget 3 (by decide)
      rw [Nat.add_zero] at q0
      simp only [sqOut, List.getElem?_cons_zero, List.getElem?_cons_succ] at q0 q1 q2 q3
      have hR := HR.out R[j] (List.getElem_mem hlt)
      have hmem : R[j].pl ∈ chnsP cs (klv cs V0) := by rw [← HRL.out]; exact List.mem_map_of_mem (List.getElem_mem hlt)
      have hp := HPL.out _ hmem
      have HTK : Hid ((R.take (j + 1)).map CR.pl = (R.take j).map CR.pl ++ [R[j].pl]) := by
        show _ = _
        rw [List.take_add_one, List.getElem?_eq_getElem hlt, List.map_append]; rfl
      obtain ⟨r, hre⟩ : ∃ r, r = R[j] := ⟨_, rfl⟩
      rw [← hre] at q0 q1 q2 q3 hR hp HTK
      have hlenL := iOuts_length cs T0 V0 a L
      have HSN : Hid (∀ x : IR, x.pl = r.pl → iOuts cs T0 V0 a (L ++ [x]) = iOuts cs T0 V0 a L ++ [.slice (some ⟨x.g, 0, none⟩) r.pl.length x.c, .int .i64 (chnP cs V0 T0 a r.pl).lev, .int .i64 (chnP cs V0 T0 a r.pl).so.e1, .int .i64 (chnP cs V0 T0 a r.pl).eo.e1]) := fun x hx => by
        rw [iOuts_snoc]; unfold iOut; rw [hx]
      generalize (chnP cs V0 T0 a r.pl).lev = lv at q1 HSN hp
      generalize (chnP cs V0 T0 a r.pl).so = so at q2 HSN
      generalize (chnP cs V0 T0 a r.pl).eo = eo at q3 HSN
      obtain ⟨hp1, hp2, hp3, hp4⟩ := hp
      clear hre hmem hgget hrow hgA
      go_upto_region 5 with fail
      obtain ⟨bs, hbs⟩ : ∃ bs, bs = wr.heap.size := ⟨_, rfl⟩
      obtain ⟨w3, hw3⟩ : ∃ w3, w3 = wr.alloc (.cells #[.slice (some ⟨r.gi, 0, none⟩) r.pl.length r.ic, .int .i8 lv, .int .u64 so.e2, .int .u64 eo.e2] 79) := ⟨_, rfl⟩
      have hS3 : Row w3 bs 79 [.slice (some ⟨r.gi, 0, none⟩) r.pl.length r.ic, .int .i8 lv, .int .u64 so.e2, .int .u64 eo.e2] := by rw [hw3, hbs]; exact Row.new wr 79 _
      have hu3 : Upd [] wr w3 := by rw [hw3]; exact (Upd.refl _ _).alloc _
      have hub3 : Upd [] wr w3.drew := hu3.drew
      rw [← hw3, ← hbs]
      have HBS := Lib.hid hbs
      clear hw3 hbs
      have x0 : w3.drew.cell? ⟨bs, 0, none⟩ = some (.slice (some ⟨r.gi, 0, none⟩) r.pl.length r.ic) := hS3.cell 0 (by simp)
      have x1 : w3.drew.cell? ⟨bs, 1, none⟩ = some (.int .i8 lv) := hS3.cell 1 (by simp)
      have x2 : w3.drew.cell? ⟨bs, 2, none⟩ = some (.int .u64 so.e2) := hS3.cell 2 (by simp)
      have x3 : w3.drew.cell? ⟨bs, 3, none⟩ = some (.int .u64 eo.e2) := hS3.cell 3 (by simp)
      have hT3 : Hid (Tab w3.drew) := HT.out.upd (hu.out.then hub3) (by simp)
      have hrg : Row w3.drew r.gi 3 (nums .i64 (nats r.pl)) := (hR.1.upd hu2.out (by simp; omega)).upd hub3 (by simp)
      have CPY : Hid (Calls Tryz.prog 46 #[.slice (some ⟨r.gi, 0, none⟩) r.pl.length r.ic] w3.drew fun e w' => ∃ g c, e = .returned (.slice (some ⟨g, 0, none⟩) r.pl.length c) ∧ w3.drew.heap.size ≤ g ∧ Row w' g 3 (nums .i64 (nats r.pl)) ∧ Upd [] w3.drew w') := by
        have h := copyOf_any (some ⟨r.gi, 0, none⟩) r.ic (nats r.pl) w3.drew (Rd.of_row hrg) (by rw [nats_length]; omega) (by rw [nats_length]; omega)
        rw [nats_length] at h; exact h
      have HS3 := Lib.hid (show Row w3.drew bs 79 _ from hS3)
      have HUb3 := Lib.hid hub3
      have HO : Hid (wr.ownsRow w.heap.size 36 4 u5 j (iOuts cs T0 V0 a L)) := hown
      have HRr := Lib.hid hR
      obtain ⟨xs, hxs⟩ : ∃ xs, xs = iOuts cs T0 V0 a L := ⟨_, rfl⟩
      rw [← hxs] at HO HSN hlenL
      have hlj : L.length = j := by
        have := congrArg List.length HLp.out
        rw [List.length_map, List.length_map, List.length_take] at this; omega
      rw [hlj] at hlenL
      have hlv8 : IntKind.i64.wrap lv = lv := by rw [IntKind.wrap_i64]; omega
      have HARM : Hid (∀ w4, Upd [] w3.drew w4 → w4.cell? ⟨bs, 0, none⟩ = some (.slice (some ⟨r.gi, 0, none⟩) r.pl.length r.ic) ∧ w4.cell? ⟨bs, 1, none⟩ = some (.int .i8 lv) ∧ w4.cell? ⟨bs, 2, none⟩ = some (.int .u64 so.e2) ∧ w4.cell? ⟨bs, 3, none⟩ = some (.int .u64 eo.e2) ∧
          Tab w4 ∧ Upd [] wr w4 ∧ w4.ownsRow w.heap.size 36 4 u5 j xs ∧ (∀ o, w.heap.size ≤ (w4.alloc o).heap.size) ∧
          ∀ o, (w4.alloc o).cell? ⟨bs, 0, none⟩ = some (.slice (some ⟨r.gi, 0, none⟩) r.pl.length r.ic) ∧ (w4.alloc o).cell? ⟨bs, 1, none⟩ = some (.int .i8 lv) ∧ (w4.alloc o).cell? ⟨bs, 2, none⟩ = some (.int .u64 so.e2) ∧ (w4.alloc o).cell? ⟨bs, 3, none⟩ = some (.int .u64 eo.e2) ∧
          ∀ w5, (w4.alloc o).grownBy w5 u5.ownBlock → w5.cell? ⟨bs, 0, none⟩ = some (.slice (some ⟨r.gi, 0, none⟩) r.pl.length r.ic) ∧ w5.cell? ⟨bs, 1, none⟩ = some (.int .i8 lv) ∧ w5.cell? ⟨bs, 2, none⟩ = some (.int .u64 so.e2) ∧ w5.cell? ⟨bs, 3, none⟩ = some (.int .u64 eo.e2)) := fun w4 hu4 => by
        have hS4 := Row.upd HS3.out hu4 (by simp)
        have h4 := hub3.trans hu4
        refine ⟨hS4.cell 0 (by simp), hS4.cell 1 (by simp), hS4.cell 2 (by simp), hS4.cell 3 (by simp), hT3.out.upd hu4 (by simp), h4, own_upd HO.out h4 (by simp), fun o => ?_, fun o => ?_⟩
        · have := hu.out.size; have := h4.size; simp; omega
        · have hA := hS4.alloc o
          refine ⟨hA.cell 0 (by simp), hA.cell 1 (by simp), hA.cell 2 (by simp), hA.cell 3 (by simp), fun w5 hg5 => ?_⟩
          have hB := hA.grown hg5 (fun e => absurd rfl ((own_row (own_upd HO.out h4 (by simp)) e.symm).ne_type hS4 (by decide)))
          exact ⟨hB.cell 0 (by simp), hB.cell 1 (by simp), hB.cell 2 (by simp), hB.cell 3 (by simp)⟩
      have hb1 : j + 1 ≤ maxLen := by unfold maxLen; omega
      have hb2 : (j + 1) * 48 ≤ 140737488355328 := by omega
      clear hS3 hu3 hub3 hrg hR q0 q1 q2 q3 hown hrowr hxs hlj
      go_region_held3 (fun w' => w'.cell? ⟨bs, 0, none⟩ = some (.slice (some ⟨r.gi, 0, none⟩) r.pl.length r.ic) ∧ w'.cell? ⟨bs, 1, none⟩ = some (.int .i8 lv) ∧ w'.cell? ⟨bs, 2, none⟩ = some (.int .u64 so.e2) ∧ w'.cell? ⟨bs, 3, none⟩ = some (.int .u64 eo.e2))
        (first | with_reducible exact ⟨x0, x1, x2, x3⟩ | with_reducible exact ⟨y0, y1, y2, y3⟩ | with_reducible exact ⟨z0, z1, z2, z3⟩ | with_reducible exact ⟨v0, v1, v2, v3⟩)
        (first
          | (go_at_call 46; with_reducible refine CPY.out.mono ?_; rintro e w4 ⟨g4, c4, rfl, hg4, hr4, hu4⟩; obtain ⟨y0, y1, y2, y3, hT4, HU4, HO4, hbz, hz⟩ := HARM.out w4 hu4; obtain ⟨z0, z1, z2, z3, hz5⟩ := hz (.cells #[.slice (some ⟨g4, 0, none⟩) r.pl.length c4, .int .i64 lv, .int .i64 so.e1, .int .i64 eo.e1] 36); have HU4 := Lib.hid HU4; have HO4 := Lib.hid HO4; have hT4 := Lib.hid hT4; have HBZ := Lib.hid hbz; have HZ5 := Lib.hid hz5; clear hz hbz hz5)
          | (go_at_call 47; with_reducible refine (numberOf_any so _ hT3.out).mono ?_; rintro e w' ⟨rfl, rfl⟩)
          | (go_at_call 47; with_reducible refine (numberOf_any eo _ hT3.out).mono ?_; rintro e w' ⟨rfl, rfl⟩)
          | (go_at_call 47; with_reducible refine (numberOf_any so _ hT4.out).mono ?_; rintro e w' ⟨rfl, rfl⟩)
          | (go_at_call 47; with_reducible refine (numberOf_any eo _ hT4.out).mono ?_; rintro e w' ⟨rfl, rfl⟩)
          | (refine step_append_lies _ rfl (.tmp 19) (.tmp 33) 33 rfl w.heap.size 36 i0 (.agg #[.slice none 0 0, .int .i64 0, .int .i64 0, .int .i64 0]) 4 48 Tryz.underlying33 hi' hz0 hz1 hz2 rfl (by decide) u5 j xs (by simp [Act.eval, Act.put]) (World.ownsRow.alloc HO4.out _) ⟨w4.heap.size, 0, none⟩ 1 1 [.slice (some ⟨g4, 0, none⟩) r.pl.length c4, .int .i64 lv, .int .i64 so.e1, .int .i64 eo.e1] (by simp [Act.eval, Act.put]) rfl (quad_at _ _ rfl _ _ _ _ _) (quad_one rfl rfl rfl) Nat.one_pos hb1 hb2 (HBZ.out _) _ rfl ?_; intro g5 cp5 w5 hown5 hgrow5 hat5 hlt5; obtain ⟨v0, v1, v2, v3⟩ := HZ5.out w5 hgrow5))
      have hfin : w5.ownsRow w.heap.size 36 4 (.slice (some ⟨g5, 0, none⟩) (j + 1) cp5) (j + 1) (iOuts cs T0 V0 a (L ++ [IR.mk g4 c4 r.pl])) := by rw [HSN.out (IR.mk g4 c4 r.pl) rfl]; exact hown5
      have hne : ∀ g vs, Row w4 g 3 vs → some g ≠ u5.ownBlock := fun g vs hg e => absurd rfl ((own_row HO4.out e.symm).ne_type hg (by decide))
      have HN1 : Hid (∀ x, x ∈ L ++ [IR.mk g4 c4 r.pl] → Row w5 x.g 3 (nums .i64 (nats x.pl)) ∧ w.heap.size ≤ x.g) := fun x hx => by
        rcases List.mem_append.1 hx with hx | hx
        · have h1 := (HLr.out x hx).1.upd HU4.out (by simp)
          exact ⟨(h1.alloc _).grown hgrow5 (hne _ _ h1), (HLr.out x hx).2⟩
        · simp at hx; subst hx
          exact ⟨(hr4.alloc _).grown hgrow5 (hne _ _ hr4), by have := HUb3.out.size; have := hu.out.size; simp only at hg4 ⊢; omega⟩
      have HN2 : Hid (Upd [] w w5) := ((hu.out.trans HU4.out).alloc _).grown hgrow5 (fun k e => .inr (HO4.out.lt k e).1)
      have HN3 : Hid (Upd [w.heap.size] w2 w5) := ((hu2.out.then HU4.out).alloc _).grown hgrow5 (fun k e => (HOB.out k e).elim (fun h => .inl (by simp [h])) .inr)
      have HN4 : Hid (∀ k, (Value.slice (some ⟨g5, 0, none⟩) (j + 1) cp5).ownBlock = some k → k = w.heap.size ∨ w2.heap.size ≤ k) := fun k e => by
        have hk : g5 = k := by simpa [Value.ownBlock] using e
        subst hk
        rcases hat5 with h | h
        · exact HOB.out _ h
        · right; have := hu2.out.size; have := HU4.out.size; rw [h]; simp; omega
      have HN5 : Hid ((L ++ [IR.mk g4 c4 r.pl]).map IR.pl = (R.take (j + 1)).map CR.pl) := by
        show _ = _
        rw [HTK.out, List.map_append, HLp.out]; rfl
      clear x0 x1 x2 x3 y0 y1 y2 y3 z0 z1 z2 z3 v0 v1 v2 v3 hown5 hgrow5 hat5 hne
      try go_wp2
      go_roundg (R.length + 1 - (j + 1))
      case measure => have := hk.out; omega
      case rel => exact ⟨j + 1, L ++ [IR.mk g4 c4 r.pl], by go_num, by omega, HN5, hfin, HN1, HN2, HN3, HN4, Nat.le_refl _⟩
    · obtain rfl : j = R.length := by omega
      have hlL : L.length = R.length := by
        have := congrArg List.length HLp.out
        rw [List.length_map, List.length_map, List.length_take, Nat.min_self] at this; exact this
      have HFN : Hid (wr.ownsRow w.heap.size 36 4 u5 L.length (iOuts cs T0 V0 a L)) := by rw [hlL]; exact hown
      clear hown hlL
      try go_wp2
      go_ret
      exact ⟨_, L, rfl, by rw [HLp.out, List.take_length, HRL.out], HFN.out, HLr.out, hu.out⟩
end Go.Proofs.YtjahmnenfknjgaaGreatDoor
