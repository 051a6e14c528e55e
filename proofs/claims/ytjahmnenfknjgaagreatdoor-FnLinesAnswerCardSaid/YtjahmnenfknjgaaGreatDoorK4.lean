/- FnLinesAnswer returns true for every input, and the input reads behind the call as it read before. Conditions: those of the given row and card alone (the listed variable impl.classes holds the table that the program's text lays, tied to that text by the card; the arguments can be read as data and are within the form's reach): no domain, no bound of ours. -/
import Derived.Test.YtjahmnenfknjgaaGreatDoorK3
import Derived.Test.YtjahmnenfknjgaaGreatDoorG28
import Derived.Test.YtjahmnenfknjgaaGreatDoorTie
import Derived.SevenTiedAt
set_option linter.unusedVariables false
set_option linter.unusedSimpArgs false
namespace Go.Proofs.YtjahmnenfknjgaaGreatDoor
open Go.ChangeShapes Go.WideShapes Go.RowKit

theorem trodAll_five {H : Type} {enc : TypeId × Value → H} {P : Program} {w : World} {base : Nat} {spare : Nat → Bool} {held : Bool} {t0 t1 t2 t3 t4 : TypeId} {args : Array Value} {ds : List (DataW H)} {ps : List MemPlace} (h : DataW.TrodAll enc P w base spare held [t0, t1, t2, t3, t4] args.toList ds ps) :
    ∃ v0 v1 v2 v3 v4 d0 d1 d2 d3 d4 p0 p1 p2 p3 p4, args = #[v0, v1, v2, v3, v4] ∧ ds = [d0, d1, d2, d3, d4] ∧ ps = p0 ++ p1 ++ p2 ++ p3 ++ p4 ∧ DataW.Trod enc P w base spare held t0 v0 d0 p0 ∧ DataW.Trod enc P w base spare held t1 v1 d1 p1 ∧ DataW.Trod enc P w base spare held t2 v2 d2 p2 ∧ DataW.Trod enc P w base spare held t3 v3 d3 p3 ∧ DataW.Trod enc P w base spare held t4 v4 d4 p4 := by
  obtain ⟨v0, vs0, d0, ds0, p0, q0, hargs, rfl, rfl, h0, r0⟩ := trodAll_cons h
  obtain ⟨v1, vs1, d1, ds1, p1, q1, rfl, rfl, rfl, h1, r1⟩ := trodAll_cons r0
  obtain ⟨v2, vs2, d2, ds2, p2, q2, rfl, rfl, rfl, h2, r2⟩ := trodAll_cons r1
  obtain ⟨v3, vs3, d3, ds3, p3, q3, rfl, rfl, rfl, h3, r3⟩ := trodAll_cons r2
  obtain ⟨v4, vs4, d4, ds4, p4, q4, rfl, rfl, rfl, h4, r4⟩ := trodAll_cons r3
  obtain ⟨rfl, rfl, rfl⟩ := trodAll_nil r4
  exact ⟨v0, v1, v2, v3, v4, d0, d1, d2, d3, d4, p0, p1, p2, p3, p4, by cases args; simp_all, rfl, by simp, h0, h1, h2, h3, h4⟩
theorem trodAll_mk5 {H : Type} {enc : TypeId × Value → H} {P : Program} {w : World} {base : Nat} {spare : Nat → Bool} {held : Bool} {t0 t1 t2 t3 t4 : TypeId} {v0 v1 v2 v3 v4 : Value} {d0 d1 d2 d3 d4 : DataW H} {p0 p1 p2 p3 p4 : List MemPlace} (h0 : DataW.Trod enc P w base spare held t0 v0 d0 p0) (h1 : DataW.Trod enc P w base spare held t1 v1 d1 p1)
    (h2 : DataW.Trod enc P w base spare held t2 v2 d2 p2) (h3 : DataW.Trod enc P w base spare held t3 v3 d3 p3) (h4 : DataW.Trod enc P w base spare held t4 v4 d4 p4) :
    DataW.TrodAll enc P w base spare held [t0, t1, t2, t3, t4] [v0, v1, v2, v3, v4] [d0, d1, d2, d3, d4] (p0 ++ (p1 ++ (p2 ++ (p3 ++ p4)))) := ⟨p0, p1 ++ (p2 ++ (p3 ++ p4)), h0, trodAll_mk4 h1 h2 h3 h4, rfl⟩

set_option maxRecDepth 100000 in
set_option maxHeartbeats 4000000 in
theorem lines_lifted (os : Os) (started : os.Started) (H : Type) (enc : TypeId × Value → H) :
    ReturnsInHanded {} Tryz.checked os 5 .any (fun w args => (Rows.fnLinesAnswerSpec.pre enc Tryz.prog Tryz.f5 [] false w args ∧ laidMet Tryz.prog [("loop.example/pub-g01449/impl.classes", Rows.laid_loop_example_pub_g01449_impl_classes)] w) ∧ sizedMet enc Tryz.prog Tryz.f5 (OpenSpec.ofChange Rows.fnLinesAnswerSpec) false w args)
      (Rows.fnLinesAnswerSpec.post enc Tryz.prog Tryz.f5 false true false false) := by
  refine returnsInHanded_of_change_and (C := Tryz.checked) (X := fun w _ => laidMet Tryz.prog [("loop.example/pub-g01449/impl.classes", Rows.laid_loop_example_pub_g01449_impl_classes)] w) (fun _ _ _ hh h => h.of_heap hh) Tryz.own started (by kernel_rfl) Tryz.func5
    (ChangeSpec.witness_at (enc := enc) (C := Tryz.checked) (os := os) (X := fun w _ => laidMet Tryz.prog [("loop.example/pub-g01449/impl.classes", Rows.laid_loop_example_pub_g01449_impl_classes)] w) false (laidWorld os) #[.slice none 0 0, .slice none 0 0, .slice none 0 0, .int .i64 0, .slice none 0 0] 8 rfl (by kernel_rfl) (by kernel_rfl) (by kernel_rfl) (by kernel_rfl) (by kernel_rfl)
      ⟨_, ⟨0, 123, tabA, 8, [], [], by kernel_rfl, by kernel_rfl, by kernel_rfl, by kernel_rfl, rfl, rfl⟩, by decide, fun b off h => by
        have h' : MemPlace.cell b off ∈ (List.range 23).map (MemPlace.cell 0) := h
        obtain ⟨j, hj, he⟩ := List.mem_map.1 h'
        injection he with he1 he2
        subst he1; subst he2
        refine ⟨⟨_, _, laidWorld_row os _⟩, fun u v hc => ?_⟩
        have hj' : j < 23 := by simpa using hj
        simp only [World.cell?, laidWorld_row os] at hc
        simp [tabA_at hj'] at hc⟩) ?_
  intro W base args ds gs before hval0 hW _ _ hL _
  have hval : ∀ (j : Nat) t v, Tryz.f5.params[j]? = some t → args[j]? = some v → Value.okWide Tryz.prog W .any base t v := hval0
  have hW' := hW
  obtain ⟨p, q, hA0, hV0, rfl, hfz, hnd⟩ := hW
  have hA : DataW.TrodAll enc Tryz.prog W 0 (fun _ => true) true Tryz.f5.params.toList args.toList ds p := hA0
  have hV : DataW.TrodVars enc Tryz.prog W (fun _ => true) ["loop.example/pub-g01449/impl.classes"] gs q := hV0
  rw [Tryz.params5] at hA hval
  obtain ⟨v0, v1, v2, v3, v4, d0, d1, d2, d3, d4, p0, p1, p2, p3, p4, rfl, rfl, rfl, h0, h1, h2, h3, h4⟩ := trodAll_five hA
  obtain ⟨g, t, cs, fuel, d, p', rfl, hg, ht, hvar, hd, rfl⟩ := trodVars_one hV
  obtain rfl := Option.some.inj (gName.symm.trans hg)
  obtain rfl := Option.some.inj (gType.symm.trans ht)
  obtain rfl : cs = tabA := Option.some.inj (hvar.symm.trans (cells_of_laid hL))
  obtain ⟨rfl, rfl⟩ := DataW.Trod.unique (v := .agg tabA) ⟨fuel, hd⟩ ⟨3, reads_table enc W _⟩
  obtain ⟨a0, la, ca, rfl⟩ := okWide_slice Tryz.underlying22 (hval 0 22 v0 rfl rfl)
  obtain ⟨a1, lb, cb, rfl⟩ := okWide_slice Tryz.underlying22 (hval 1 22 v1 rfl rfl)
  obtain ⟨a2, lc, cc, rfl⟩ := okWide_slice Tryz.underlying22 (hval 2 22 v2 rfl rfl)
  obtain ⟨a4, le, ce, rfl⟩ := okWide_slice Tryz.underlying22 (hval 4 22 v4 rfl rfl)
  have h3k := h3
  obtain ⟨z, rfl, rfl, rfl, wz⟩ := open_int Tryz.underlying3 (hval 3 3 v3 rfl rfl) h3
  have h0k := h0
  have h1k := h1
  have h2k := h2
  have h4k := h4
  obtain ⟨fa, hfa⟩ := h0
  obtain ⟨fb, hfb⟩ := h1
  obtain ⟨fc, hfc⟩ := h2
  obtain ⟨fe, hfe⟩ := h4
  clear hA0 hV0 hval0
  have hlt : ∀ x ∈ p0 ++ p1 ++ p2 ++ p4, x.block < W.heap.size := fun x hx => by simpa using hW'.lt x (by simp at hx ⊢; rcases hx with h | h | h | h <;> simp [h])
  obtain ⟨A, rfl, hrA⟩ := view hfa
  obtain ⟨B, rfl, hrB⟩ := view hfb
  obtain ⟨C, rfl, hrC⟩ := view hfc
  obtain ⟨E, rfl, hrE⟩ := view hfe
  have hT := tab_of_laid hL
  refine (lawLines_any a0 a1 a2 a4 ca cb cc ce z A B C E W hT hrA hrB hrC hrE).mono fun e W' ⟨he, hu⟩ => ?_
  subst he
  have hnx := hu.below
  have hpos : 0 < W.heap.size := by obtain ⟨_, _, h⟩ := hT; exact (Array.getElem?_eq_some_iff.1 h).1
  have hvars : ∀ sp : Nat → Bool, DataW.TrodVars enc Tryz.prog W' sp ["loop.example/pub-g01449/impl.classes"] [Rows.laid_loop_example_pub_g01449_impl_classes] (MemPlace.row ⟨0, 0, none⟩ tabA.size ++ []) := fun sp =>
    trodVars_mk1 gName gType (var?_below hnx gName hpos hvar) (reads_table enc W' _)
  refine ⟨_, rfl, _, _, _, _, _, _, hW', trodAll_mk1 (shut_bool Tryz.underlying4 true),
    trodAll_mk5 (Below.trod Tryz.laidOut (by kernel_rfl) (of_decide_eq_true (by kernel_rfl)) h0k hnx (fun x hx => hlt x (by simp [hx]))) (Below.trod Tryz.laidOut (by kernel_rfl) (of_decide_eq_true (by kernel_rfl)) h1k hnx (fun x hx => hlt x (by simp [hx]))) (Below.trod Tryz.laidOut (by kernel_rfl) (of_decide_eq_true (by kernel_rfl)) h2k hnx (fun x hx => hlt x (by simp [hx]))) (shut_int Tryz.underlying3 wz) (Below.trod Tryz.laidOut (by kernel_rfl) (of_decide_eq_true (by kernel_rfl)) h4k hnx (fun x hx => hlt x (by simp [hx]))),
    hvars _, hnx.frame _, fun h => by cases h⟩
theorem lines_holds : Rows.FnLinesAnswerSaid :=
  OpenClaim.holds_of_wide 5 Tryz.f5 rfl rfl rfl rfl rfl rfl rfl ⟨rfl, rfl, rfl, rfl, rfl⟩ rfl rfl rfl rfl rfl (by kernel_rfl) Tryz.func5 (by kernel_rfl)
    (of_decide_eq_true (by kernel_rfl)) (by unfold Func.isWrapper; first | (rw [if_pos (by decide +kernel)]; kernel_rfl) | (rw [if_neg (by decide +kernel)]; exact ⟨rfl, rfl⟩))
    (fun os started H enc _ => lines_lifted os started H enc)
theorem lines_card : Rows.FnLinesAnswerCardSaid :=
  Claim7.holds_tied_plain_at .later [] [.data] true (true, "f77abbf5d68ed9af22454732288ee9dcddffc455982a846028e7f50cb53c76b1") true
    lines_holds (fun _ h => by cases h) (by kernel_rfl) (fun _ h => by cases h) fnLinesAnswer_row_tie rfl ⟨rfl, rfl⟩ (by kernel_rfl) rfl
    (fun f fn hf hfn => by
      obtain rfl : f = 5 := Option.some.inj ((show Tryz.prog.funcNamed "loop.example/pub-g01449/laws.FnLinesAnswer" = some 5 by kernel_rfl).symm.trans hf) |>.symm
      obtain rfl : fn = Tryz.f5 := (Option.some.inj (Tryz.func5.symm.trans hfn)).symm
      exact ⟨by kernel_rfl, fun j t ht => by
        rw [Tryz.params5] at ht
        have h3 : t = 22 ∨ t = 3 := by
          rcases j with _ | _ | _ | _ | _ | j
          · left; simpa using ht.symm
          · left; simpa using ht.symm
          · left; simpa using ht.symm
          · right; simpa using ht.symm
          · left; simpa using ht.symm
          · simp at ht
        rcases h3 with h3 | h3 <;> subst h3
        · exact (show Tryz.prog.wantsStandIn 22 = false by kernel_rfl)
        · exact (show Tryz.prog.wantsStandIn 3 = false by kernel_rfl)⟩)
    (by kernel_rfl)
#print axioms lines_card
end Go.Proofs.YtjahmnenfknjgaaGreatDoor
