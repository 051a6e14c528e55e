/- The rows' common part: the listed variable's cells, the witness's world, an argument opened once. -/
import Derived.Test.YtjahmnenfknjgaaGreatDoorCards
import Derived.Test.YtjahmnenfknjgaaGreatDoorG1
import Derived.ChangeSame
import Derived.ChangeVars
import Derived.JoinedOf
import Derived.ProofKit
import Derived.WalkSmall
import Derived.SliceStrings
set_option linter.unusedVariables false
set_option linter.unusedSimpArgs false
namespace Go.Proofs.YtjahmnenfknjgaaGreatDoor
open Go.ChangeShapes Go.WideShapes Go.RowKit

theorem Tryz.own : ownKnob Tryz.prog.godebug = none := by kernel_rfl
theorem Tryz.laidOut : laidOutB Tryz.prog = true := by kernel_rfl
theorem gName : Tryz.prog.globalNamed "loop.example/pub-g01449/impl.classes" = some 0 := by kernel_rfl
theorem gType : (Tryz.prog.globals[0]?).map (·.type) = some 123 := by kernel_rfl
theorem cells123 : Tryz.prog.cellsOf 123 = 23 := by kernel_rfl
theorem cells77 : Tryz.prog.cellsOf 77 = 1 := by kernel_rfl
theorem cells3 : Tryz.prog.cellsOf 3 = 1 := by kernel_rfl
theorem int_of_trodN {H : Type} {enc : TypeId × Value → H} {P : Program} {w : World} {base : Nat} {sp : Nat → Bool} {held : Bool} {fuel : Nat} {t : TypeId} {k : IntKind} {c : Value} {y : DataW H × List MemPlace}
    (ht : P.underlying t = some (.int k)) (h : DataW.trod enc P w base sp held fuel t [c] = some y) : ∃ n, c = .int k n ∧ y = (.lit (.int k n), []) := by
  cases fuel with
  | zero => simp [DataW.trod] at h
  | succ fuel =>
    cases c <;> simp [DataW.trod, ht] at h
    rename_i k' n
    obtain ⟨⟨rfl, _⟩, rfl⟩ := h
    exact ⟨n, rfl, rfl⟩
theorem tabA_eq : tabA = #[.int .u64 0, .int .u64 1, .int .u64 2, .int .u64 3, .int .u64 4, .int .u64 5, .int .u64 6, .int .u64 7, .int .u64 8, .int .u64 9, .int .u64 10, .int .u64 11, .int .u64 12, .int .u64 13, .int .u64 16, .int .u64 17, .int .u64 18, .int .u64 19, .int .u64 20, .int .u64 21, .int .u64 22, .int .u64 23, .int .u64 24] := rfl
set_option maxRecDepth 100000 in
set_option maxHeartbeats 4000000 in
theorem cells_of_laid {W : World} (h : laidMet Tryz.prog [("loop.example/pub-g01449/impl.classes", Rows.laid_loop_example_pub_g01449_impl_classes)] W) : W.var? Tryz.prog "loop.example/pub-g01449/impl.classes" = some tabA := by
  obtain ⟨ps, ⟨g, t, cs, fuel, p, q, hg, ht, hvar, hd, _, _⟩, _⟩ := h
  obtain rfl := Option.some.inj (gName.symm.trans hg)
  obtain rfl := Option.some.inj (gType.symm.trans ht)
  rw [hvar]
  congr 1
  obtain ⟨l⟩ := cs
  cases fuel with
  | zero => simp [DataW.trod] at hd
  | succ fuel =>
    simp only [DataW.trod, Tryz.underlying123, cells123, cells77] at hd
    split at hd
    · rename_i hl
      obtain ⟨c0, c1, c2, c3, c4, c5, c6, c7, c8, c9, c10, c11, c12, c13, c14, c15, c16, c17, c18, c19, c20, c21, c22, rfl⟩ : ∃ c0 c1 c2 c3 c4 c5 c6 c7 c8 c9 c10 c11 c12 c13 c14 c15 c16 c17 c18 c19 c20 c21 c22, l = [c0, c1, c2, c3, c4, c5, c6, c7, c8, c9, c10, c11, c12, c13, c14, c15, c16, c17, c18, c19, c20, c21, c22] := by
        match l, hl with
        | [a, b, c, d, e, f, g, h, i, j, k, l, m, n, o, p, q, r, s, t, u, v, w], _ => exact ⟨a, b, c, d, e, f, g, h, i, j, k, l, m, n, o, p, q, r, s, t, u, v, w, rfl⟩
      have e : List.range 23 = [0, 1, 2, 3, 4, 5, 6, 7, 8, 9, 10, 11, 12, 13, 14, 15, 16, 17, 18, 19, 20, 21, 22] := rfl
      rw [e] at hd
      simp only [Option.map_eq_some_iff, List.mapM_cons, List.mapM_nil, Option.bind_eq_bind, Option.bind_eq_some_iff, Option.pure_def, Option.some.injEq] at hd
      obtain ⟨xs, ⟨y0, h0, _, ⟨y1, h1, _, ⟨y2, h2, _, ⟨y3, h3, _, ⟨y4, h4, _, ⟨y5, h5, _, ⟨y6, h6, _, ⟨y7, h7, _, ⟨y8, h8, _, ⟨y9, h9, _, ⟨y10, h10, _, ⟨y11, h11, _, ⟨y12, h12, _, ⟨y13, h13, _, ⟨y14, h14, _, ⟨y15, h15, _, ⟨y16, h16, _, ⟨y17, h17, _, ⟨y18, h18, _, ⟨y19, h19, _, ⟨y20, h20, _, ⟨y21, h21, _, ⟨y22, h22, _, rfl, rfl⟩, rfl⟩, rfl⟩, rfl⟩, rfl⟩, rfl⟩, rfl⟩, rfl⟩, rfl⟩, rfl⟩, rfl⟩, rfl⟩, rfl⟩, rfl⟩, rfl⟩, rfl⟩, rfl⟩, rfl⟩, rfl⟩, rfl⟩, rfl⟩, rfl⟩, rfl⟩, hx⟩ := hd
      obtain ⟨n0, rfl, rfl⟩ := int_of_trodN Tryz.underlying77 h0
      obtain ⟨n1, rfl, rfl⟩ := int_of_trodN Tryz.underlying77 h1
      obtain ⟨n2, rfl, rfl⟩ := int_of_trodN Tryz.underlying77 h2
      obtain ⟨n3, rfl, rfl⟩ := int_of_trodN Tryz.underlying77 h3
      obtain ⟨n4, rfl, rfl⟩ := int_of_trodN Tryz.underlying77 h4
      obtain ⟨n5, rfl, rfl⟩ := int_of_trodN Tryz.underlying77 h5
      obtain ⟨n6, rfl, rfl⟩ := int_of_trodN Tryz.underlying77 h6
      obtain ⟨n7, rfl, rfl⟩ := int_of_trodN Tryz.underlying77 h7
      obtain ⟨n8, rfl, rfl⟩ := int_of_trodN Tryz.underlying77 h8
      obtain ⟨n9, rfl, rfl⟩ := int_of_trodN Tryz.underlying77 h9
      obtain ⟨n10, rfl, rfl⟩ := int_of_trodN Tryz.underlying77 h10
      obtain ⟨n11, rfl, rfl⟩ := int_of_trodN Tryz.underlying77 h11
      obtain ⟨n12, rfl, rfl⟩ := int_of_trodN Tryz.underlying77 h12
      obtain ⟨n13, rfl, rfl⟩ := int_of_trodN Tryz.underlying77 h13
      obtain ⟨n14, rfl, rfl⟩ := int_of_trodN Tryz.underlying77 h14
      obtain ⟨n15, rfl, rfl⟩ := int_of_trodN Tryz.underlying77 h15
      obtain ⟨n16, rfl, rfl⟩ := int_of_trodN Tryz.underlying77 h16
      obtain ⟨n17, rfl, rfl⟩ := int_of_trodN Tryz.underlying77 h17
      obtain ⟨n18, rfl, rfl⟩ := int_of_trodN Tryz.underlying77 h18
      obtain ⟨n19, rfl, rfl⟩ := int_of_trodN Tryz.underlying77 h19
      obtain ⟨n20, rfl, rfl⟩ := int_of_trodN Tryz.underlying77 h20
      obtain ⟨n21, rfl, rfl⟩ := int_of_trodN Tryz.underlying77 h21
      obtain ⟨n22, rfl, rfl⟩ := int_of_trodN Tryz.underlying77 h22
      simp [Rows.laid_loop_example_pub_g01449_impl_classes] at hx
      obtain ⟨⟨rfl, rfl, rfl, rfl, rfl, rfl, rfl, rfl, rfl, rfl, rfl, rfl, rfl, rfl, rfl, rfl, rfl, rfl, rfl, rfl, rfl, rfl, rfl⟩, _⟩ := hx
      rfl
    · cases hd
/-- A world in which the variable holds the table, for the witness. -/
noncomputable def laidWorld (os : Os) : World :=
  { World.holding Tryz.prog os ⟨#[], #[], []⟩ with heap := (World.holding Tryz.prog os ⟨#[], #[], []⟩).heap.modify 0 fun
      | .cells _ t frozen => .cells tabA t frozen
      | o => o }
theorem laidWorld_row (os : Os) (args : Array Value) : ((laidWorld os).forCall (fun _ _ => 0) ⟨#[], args, []⟩).memory.heap[0]? = some (.cells tabA 123 (0, 0)) := by kernel_rfl
theorem reads_table {H : Type} (enc : TypeId × Value → H) (W : World) (sp : Nat → Bool) : DataW.trod enc Tryz.prog W 0 sp true 3 123 tabA.toList = some (Rows.laid_loop_example_pub_g01449_impl_classes, []) := by kernel_rfl
theorem tab_of_laid {W : World} (h : laidMet Tryz.prog [("loop.example/pub-g01449/impl.classes", Rows.laid_loop_example_pub_g01449_impl_classes)] W) : Tab W := by
  have hv := cells_of_laid h
  unfold World.var? at hv
  simp only [gName, Option.bind_some] at hv
  unfold Tab
  split at hv
  · rename_i c t fr hb
    simp only [Option.some.injEq] at hv
    subst hv
    exact ⟨_, _, hb⟩
  · cases hv
/-- An argument of type []int, nil or not: its numbers, and that it reads them. -/
theorem view {H : Type} {enc : TypeId × Value → H} {W : World} {fuel : Nat} {a0 : Option Addr} {len cap : Nat} {d : DataW H} {p : List MemPlace}
    (hf : DataW.trod enc Tryz.prog W 0 (fun _ => true) true fuel 22 (Value.slice a0 len cap).cells.toList = some (d, p)) :
    ∃ Z : List Int, Z.length = len ∧ Rd W a0 (nums .i64 Z) := by
  rcases open_ints Tryz.underlying22 Tryz.underlying3 cells3 hf with ⟨hcs, hx⟩ | ⟨a, len', cap', zs, hcs, _, hl, hm, hz, hx, hcell, hwz⟩
  · simp [Value.cells] at hcs
    obtain ⟨rfl, rfl, rfl⟩ := hcs
    exact ⟨[], rfl, Rd.nil _ _⟩
  · simp [Value.cells] at hcs
    obtain ⟨rfl, rfl, rfl⟩ := hcs
    simp only [if_true] at hz
    refine ⟨zs.take len, (by simp; omega), fun j hj => ?_⟩
    have hjl : j < len := by simp [nums] at hj; omega
    have hc := hcell j (by omega)
    obtain ⟨b, o, s⟩ := a
    have hs : s = none := by simpa [Addr.add] using World.cell?_spot (hcell 0 (by omega))
    subst hs
    refine ⟨b, o, rfl, ?_⟩
    rw [← add_plain, hc]
    simp [nums, List.getD, List.getElem?_eq_getElem (show j < zs.length by omega)]
end Go.Proofs.YtjahmnenfknjgaaGreatDoor
