/- Weak, Neutral, Implicit of the package, each by its contract. -/
import Derived.Test.YtjahmnenfknjgaaGreatDoorG24
import Derived.Test.YtjahmnenfknjgaaGreatDoorG14
import Derived.Test.YtjahmnenfknjgaaGreatDoorG21
import Derived.Test.YtjahmnenfknjgaaGreatDoorG25
import Derived.Test.YtjahmnenfknjgaaGreatDoorG1
import Derived.Defers
import Derived.Recover
set_option linter.unusedVariables false
set_option linter.unusedSimpArgs false
namespace Go.Proofs.YtjahmnenfknjgaaGreatDoor
open Go.RowKit

set_option maxHeartbeats 4000000 in
set_option maxRecDepth 100000 in
theorem weakX_any (gx c : Nat) (l : List Cl) (so eo : Cl) (w : World) (hr : Row w gx 77 (clsU l)) (hl : AllC Cl.p0 l) (hso : so = .L ∨ so = .R) (heo : eo = .L ∨ eo = .R) (hm : l.length ≤ 2147483647) :
    Calls Tryz.prog 49 #[.slice (some ⟨gx, 0, none⟩) l.length c, .int .u64 so.e2, .int .u64 eo.e2] w fun e w' => ∃ g k, e = .returned (.slice (some ⟨g, 0, none⟩) l.length k) ∧ Row w' g 77 (clsU (weakP l so)) ∧ Upd [] w w' := by
  have C1 := mkSeq_any gx c l 0 so eo w hr hm
  have HL := Lib.hid hl
  have HS := Lib.hid hso
  have HE := Lib.hid heo
  clear hr hl hso heo
  go_enter Tryz.func49, Tryz.ntmps49
  go_wp2_with (first
    | (go_at_call 84; refine C1.mono ?_; rintro e w1 ⟨q, gi, gt, ct, rfl, hq, hgi, hgt, hct, hS, hi1, ht1, hu1⟩; have hQ : QF ⟨q, gt, ct, l.length, some ⟨gi, 0, none⟩, l.length, .pointer none, .slice none 0 0, 0, so, eo⟩ w1 w1 l := ⟨hS, ht1, Upd.refl _ _, rfl⟩; have C2 := weak_any _ l w1 hQ HL.out HS.out HE.out hct hm)
    | (go_at_call 85; refine C2.mono ?_; rintro e w2 ⟨rfl, hQ2⟩; have d2 := hQ2.sq.cells.c2))
  go_ret
  exact ⟨gt, ct, rfl, hQ2.rt, hu1.step hQ2.up fun t ht => .inr (by simp at ht; omega)⟩
set_option maxHeartbeats 4000000 in
set_option maxRecDepth 100000 in
theorem neutralX_any (gx c : Nat) (l : List Cl) (lv : Int) (so eo : Cl) (w : World) (hr : Row w gx 77 (clsU l)) (hl : AllC isN l) (hlv0 : 0 ≤ lv) (hlv1 : lv ≤ 127) (hso : so = .L ∨ so = .R) (heo : eo = .L ∨ eo = .R) (hm : l.length ≤ 2147483647) :
    Calls Tryz.prog 53 #[.slice (some ⟨gx, 0, none⟩) l.length c, .int .i8 lv, .int .u64 so.e2, .int .u64 eo.e2] w fun e w' => ∃ g k, e = .returned (.slice (some ⟨g, 0, none⟩) l.length k) ∧ Row w' g 77 (clsU (neuS l lv so eo)) ∧ Upd [] w w' := by
  have C1 := mkSeq_any gx c l lv so eo w hr hm
  have HL := Lib.hid hl
  have HS := Lib.hid hso
  have HE := Lib.hid heo
  clear hr hl hso heo
  go_enter Tryz.func53, Tryz.ntmps53
  go_wp2_with (first
    | (go_at_call 84; refine C1.mono ?_; rintro e w1 ⟨q, gi, gt, ct, rfl, hq, hgi, hgt, hct, hS, hi1, ht1, hu1⟩; have hQ : QF ⟨q, gt, ct, l.length, some ⟨gi, 0, none⟩, l.length, .pointer none, .slice none 0 0, lv, so, eo⟩ w1 w1 l := ⟨hS, ht1, Upd.refl _ _, rfl⟩; have C2 := neutral_any _ l w1 hQ HL.out HS.out HE.out hlv0 hlv1 hct hm)
    | (go_at_call 87; refine C2.mono ?_; rintro e w2 ⟨rfl, hQ2⟩; have d2 := hQ2.sq.cells.c2))
  go_ret
  exact ⟨gt, ct, rfl, hQ2.rt, hu1.step hQ2.up fun t ht => .inr (by simp at ht; omega)⟩
set_option maxHeartbeats 4000000 in
set_option maxRecDepth 100000 in
theorem implicitX_any (gx c : Nat) (l : List Cl) (lv : Int) (w : World) (hr : Row w gx 77 (clsU l)) (hl : AllC Cl.p4 l) (hlv0 : 0 ≤ lv) (hlv1 : lv ≤ 125) (hm : l.length ≤ 2147483647) :
    Calls Tryz.prog 55 #[.slice (some ⟨gx, 0, none⟩) l.length c, .int .i8 lv] w fun e w' => ∃ g, e = .returned (.slice (some ⟨g, 0, none⟩) l.length l.length) ∧ Row w' g 60 (nums .i8 (impS l lv)) ∧ Upd [] w w' := by
  have C1 : Calls Tryz.prog 84 #[.slice (some ⟨gx, 0, none⟩) l.length c, .int .i8 lv, .int .u64 0, .int .u64 0] w _ := mkSeq_any gx c l lv .L .L w hr hm
  have HL := Lib.hid hl
  have HN : Hid (∀ g W, Row W g 112 (nums .i8 (impS l lv)) → Calls Tryz.prog 81 #[.slice (some ⟨g, 0, none⟩) l.length l.length] W fun e w' => ∃ g', e = .returned (.slice (some ⟨g', 0, none⟩) l.length l.length) ∧ Row w' g' 60 (nums .i8 (impS l lv)) ∧ Upd [] W w') := fun g W hg => by
    have h := numbers_any (some ⟨g, 0, none⟩) l.length (impS l lv) W (Rd.of_row hg) (by rw [impS_length]; exact hm)
    rw [impS_length] at h
    exact h.mono fun _ _ ⟨a1, a2, a3⟩ => ⟨_, a1, a2, a3⟩
  clear hr hl
  go_enter Tryz.func55, Tryz.ntmps55
  go_wp2_with (first
    | (go_at_call 84; refine C1.mono ?_; rintro e w1 ⟨q, gi, gt, ct, rfl, hq, hgi, hgt, hct, hS, hi1, ht1, hu1⟩; have hQ : QF ⟨q, gt, ct, l.length, some ⟨gi, 0, none⟩, l.length, .pointer none, .slice none 0 0, lv, .L, .L⟩ w1 w1 l := ⟨hS, ht1, Upd.refl _ _, rfl⟩; have C2 := implicit_any _ l w1 hQ HL.out hlv0 hlv1 hm)
    | (go_at_call 88; refine C2.mono ?_; rintro e w2 ⟨rfl, g, hg, hS2, ht2, hL2, hu2⟩; have d3 := hS2.cells.c3; have C3 := HN.out g w2 hL2)
    | (go_at_call 81; refine C3.mono ?_; rintro e w3 ⟨g', rfl, hn3, hu3⟩))
  go_ret
  exact ⟨g', rfl, hn3, (hu1.step hu2 fun t ht => .inr (by simp at ht; omega)).trans hu3⟩
end Go.Proofs.YtjahmnenfknjgaaGreatDoor
namespace Go.Proofs.YtjahmnenfknjgaaGreatDoor
open Go.RowKit

theorem pick_range (l : List Int) : pick l (List.range l.length) = l := by
  apply ext_nth (by simp [pick])
  intro j hj
  have hj' : j < l.length := by simpa [pick] using hj
  simp [nth, pick, hj']
theorem cIni_range (l : List Cl) : cIni l (List.range l.length) = l := by
  apply ext_cat (by simp [cIni])
  intro j hj
  have hj' : j < l.length := by simpa [cIni] using hj
  rw [cat_cIni (by simpa using hj')]; simp [nat, hj']

set_option maxHeartbeats 8000000 in
set_option maxRecDepth 100000 in
theorem bracketsX_any (gx c gy cy gk kc gv vc : Nat) (l cs : List Cl) (ks vs : List Int) (lv : Int) (so : Cl) (w : World) (hr : Row w gx 77 (clsU l)) (hy : Row w gy 77 (clsU cs)) (hk : Row w gk 5 (nums .u8 ks)) (hv : Row w gv 21 (nums .i32 vs))
    (hc : cs.length = l.length) (hkn : ks.length = l.length) (hvn : vs.length = l.length) (hm : l.length ≤ 2147483647) (h0 : 0 < l.length)
    (hks : ∀ j, j < l.length → nth ks j = 0 ∨ nth ks j = 1 ∨ nth ks j = 2) (hvs : ∀ j, j < l.length → nth ks j ≠ 0 → 0 < nth vs j) (hmk : ∀ j, j < l.length → nth ks j ≠ 0 → cat cs j ≠ .NSM) (hop : opc (signed ks vs) l.length ≤ 63)
    (hl : AllC isN l) (hlv0 : 0 ≤ lv) (hlv1 : lv ≤ 127) (hso : so = .L ∨ so = .R) :
    Calls Tryz.prog 51 #[.slice (some ⟨gx, 0, none⟩) l.length c, .slice (some ⟨gy, 0, none⟩) l.length cy, .slice (some ⟨gk, 0, none⟩) l.length kc, .slice (some ⟨gv, 0, none⟩) l.length vc, .int .i8 lv, .int .u64 so.e2] w fun e w' => ∃ g k, e = .returned (.slice (some ⟨g, 0, none⟩) l.length k) ∧ Row w' g 77 (clsU (brS l cs (signed ks vs) lv so)) ∧ Upd [] w w' := by
  obtain ⟨i0, hi', hz0, hz1, hz2⟩ := info_parts info77
  obtain ⟨i1, hj', hy0, hy1, hy2⟩ := info_parts info21
  have C1 := mkSeq_any gx c l lv so so w hr hm
  obtain ⟨n, hn⟩ : ∃ n, n = l.length := ⟨_, rfl⟩
  have HK : Hid (∀ W, Upd [] w W → Calls Tryz.prog 80 #[.slice (some ⟨gk, 0, none⟩) n kc] W fun e w' => ∃ g, W.heap.size ≤ g ∧ e = .returned (.slice (some ⟨g, 0, none⟩) n n) ∧ Row w' g 135 (nums .u8 ks) ∧ Upd [] W w') := fun W hW => by
    have h := brackets_any (some ⟨gk, 0, none⟩) kc ks W (Rd.of_row (hk.upd hW (by simp))) (by omega)
    rw [hkn, ← hn] at h
    exact h.mono fun _ _ ⟨a1, a2, a3⟩ => ⟨_, Nat.le_refl _, a1, a2, a3⟩
  have PB : Hid (∀ q b gt ct gi g0 k0 g2 c2 g3 c3 W, Sq W q (.pointer (some ⟨b, 0, none⟩)) (.slice (some ⟨gi, 0, none⟩) n n) (.slice (some ⟨gt, 0, none⟩) n ct) (.slice none 0 0) lv so so →
      Par W b (.slice (some ⟨g0, 0, none⟩) n k0) (.slice (some ⟨g2, 0, none⟩) n c2) (.slice (some ⟨g3, 0, none⟩) n c3) 0 (.slice none 0 0) (.slice none 0 0) (.slice none 0 0) (.slice none 0 0) →
      Row W gt 77 (clsU l) → Row W gi 3 (nums .i64 (nats (List.range n))) → Row W g0 77 (clsU cs) → Row W g2 135 (nums .u8 ks) → Row W g3 21 (nums .i32 vs) → g0 ≠ gt →
      Calls Tryz.prog 86 #[.pointer (some ⟨q, 0, none⟩)] W fun e w' => e = .returned (.tuple #[]) ∧ Row w' gt 77 (clsU (brS l cs (signed ks vs) lv so)) ∧ Upd [gt] W w') := fun q b gt ct gi g0 k0 g2 c2 g3 c3 W a1 a2 a3 a4 a5 a6 a7 a8 => by
    have hsl : (signed ks vs).length = n := by rw [signed_length, hkn, hn]
    have hpr : pick (signed ks vs) (List.range n) = signed ks vs := by rw [← hsl]; exact pick_range _
    have hcr : cIni cs (List.range n) = cs := by rw [hn, ← hc]; exact cIni_range _
    have h := pairB_any q b gt n ct gi n g0 n k0 c2 c3 (some ⟨g2, 0, none⟩) (some ⟨g3, 0, none⟩) _ _ _ _ _ _ lv so so l cs (List.range n) ks vs W a1 a2 a3 a4 a5 (Rd.of_row a6) (Rd.of_row a7) a8
      hn.symm (by simp) (by omega) (by omega) (by omega) (by omega) (by omega) (fun q hq => by simpa using hq) (fun j hj => hks j (by omega)) (fun j hj => hvs j (by omega)) (fun j hj => hmk j (by omega)) (by rw [hpr, hn]; exact hop) hl hlv0 hlv1 hso
    rw [hpr, hcr] at h; exact h
  rw [← hn] at C1 hc hkn hvn hm ⊢
  have HR := Lib.hid hr
  have HY := Lib.hid hy
  have HV := Lib.hid hv
  have HC := Lib.hid hc
  have HVN := Lib.hid hvn
  clear hks hvs hmk hop hl hso hn hr hy hk hv hc hkn hvn h0
  go_enter Tryz.func51, Tryz.ntmps51
  go_upto_region 3 with (first
    | (go_at_call 84; refine C1.mono ?_; rintro e w1 ⟨q, gi, gt, ct, rfl, hq, hgi, hgt, hct, hS, hi1, ht1, hu1⟩; have hr1 := HY.out.upd hu1 (by simp); have hown1 := World.ownsRow_lit (base := w1.heap.size) (e := 77) (size := 1) w1 #[] 0 (Nat.le_refl _) (by decide) rfl)
    | (at_builtin; refine wpList_append_two _ rfl (.tmp 20) (.tmp 21) 58 rfl w1.heap.size 77 i0 (.int .u64 0) 1 8 Tryz.underlying58 hi' hz0 hz1 hz2 rfl (by decide) w1.heap.size 0 0 _ rfl hown1 ⟨gy, 0, none⟩ n cy (clsU cs) rfl (by rw [clsU_length, HC.out]; simp) (hr1.alloc _).at_addr (clsU_one cs) (by unfold maxLen; omega) (by omega) (by simp) ?_; intro g2 c2 w2 hown2 hgrow2 hg2; have hu2 : Upd [] w1 w2 := ((Upd.refl [] w1).alloc _).grown hgrow2 (fun k e => .inr (by cases e; exact Nat.le_refl _)); have hu12 := hu1.trans hu2; have C3 := HK.out w2 hu12)
    | (go_at_call 80; refine C3.mono ?_; rintro e w3 ⟨g3, hg3, rfl, hk3, hu3⟩; have hu13 := hu12.trans hu3; have hv3 := HV.out.upd hu13 (by simp); have hown3 := World.ownsRow_lit (base := w3.heap.size) (e := 21) (size := 1) w3 #[] 0 (Nat.le_refl _) (by decide) rfl)
    | (at_builtin; refine wpList_append_two _ rfl (.tmp 25) (.tmp 26) 68 rfl w3.heap.size 21 i1 (.int .i32 0) 1 4 Tryz.underlying68 hj' hy0 hy1 hy2 rfl (by decide) w3.heap.size 0 0 _ rfl hown3 ⟨gv, 0, none⟩ n vc (nums .i32 vs) rfl (by rw [nums_length, HVN.out]; simp) (hv3.alloc _).at_addr (nums_one' _ vs) (by unfold maxLen; omega) (by omega) (by simp) ?_; intro g4 c4 w4 hown4 hgrow4 hg4; have hu4 : Upd [] w3 w4 := ((Upd.refl [] w3).alloc _).grown hgrow4 (fun k e => .inr (by cases e; exact Nat.le_refl _)); have hu24 := (hu2.trans hu3).trans hu4; have hS4 := (hS.upd hu24 (by simp)).upd ((Upd.refl [] w4).alloc (.cells (parCells (.slice (some ⟨g2, 0, none⟩) n c2) (.slice (some ⟨g3, 0, none⟩) n n) (.slice (some ⟨g4, 0, none⟩) n c4) 0 (.slice none 0 0) (.slice none 0 0) (.slice none 0 0) (.slice none 0 0)).toArray 115)) (by simp); have d0 : (w4.alloc (.cells #[.slice (some ⟨g2, 0, none⟩) n c2, .slice (some ⟨g3, 0, none⟩) n n, .slice (some ⟨g4, 0, none⟩) n c4, .int .i8 0, .slice none 0 0, .slice none 0 0, .slice none 0 0, .slice none 0 0] 115)).cell? ⟨q, 0, none⟩ = some (.pointer none) := hS4.cells.c0; have f0 : (w4.alloc (.cells #[.slice (some ⟨g2, 0, none⟩) n c2, .slice (some ⟨g3, 0, none⟩) n n, .slice (some ⟨g4, 0, none⟩) n c4, .int .i8 0, .slice none 0 0, .slice none 0 0, .slice none 0 0, .slice none 0 0] 115)).frozen? ⟨q, 0, none⟩ = false := Row.free hS4 0))
  have hS5 : Sq (w4.alloc (.cells #[.slice (some ⟨g2, 0, none⟩) n c2, .slice (some ⟨g3, 0, none⟩) n n, .slice (some ⟨g4, 0, none⟩) n c4, .int .i8 0, .slice none 0 0, .slice none 0 0, .slice none 0 0, .slice none 0 0] 115)) q (.pointer none) (.slice (some ⟨gi, 0, none⟩) n n) (.slice (some ⟨gt, 0, none⟩) n ct) (.slice none 0 0) lv so so := hS4
  have hP5 : Par (w4.alloc (.cells #[.slice (some ⟨g2, 0, none⟩) n c2, .slice (some ⟨g3, 0, none⟩) n n, .slice (some ⟨g4, 0, none⟩) n c4, .int .i8 0, .slice none 0 0, .slice none 0 0, .slice none 0 0, .slice none 0 0] 115)) w4.heap.size (.slice (some ⟨g2, 0, none⟩) n c2) (.slice (some ⟨g3, 0, none⟩) n n) (.slice (some ⟨g4, 0, none⟩) n c4) 0 (.slice none 0 0) (.slice none 0 0) (.slice none 0 0) (.slice none 0 0) := Row.new w4 115 _
  have hu5 : Upd [] w4 (w4.alloc (.cells #[.slice (some ⟨g2, 0, none⟩) n c2, .slice (some ⟨g3, 0, none⟩) n n, .slice (some ⟨g4, 0, none⟩) n c4, .int .i8 0, .slice none 0 0, .slice none 0 0, .slice none 0 0, .slice none 0 0] 115)) := (Upd.refl _ _).alloc _
  have ht2 : Row w2 g2 77 (clsU cs) := Row.of_owns hown2
  have ht4 : Row w4 g4 21 (nums .i32 vs) := Row.of_owns hown4
  have hg2w := hown2.lt g2 rfl
  have hgtl := ht1.lt
  have hql := hS.lt
  obtain ⟨bw, hbw⟩ : ∃ bw, bw = w4.heap.size := ⟨_, rfl⟩
  rw [← hbw] at hP5 ⊢
  have ht5 := (ht2.upd (hu3.trans hu4) (by simp)).upd hu5 (by simp)
  have hk5 := (hk3.upd hu4 (by simp)).upd hu5 (by simp)
  have hv5 := ht4.upd hu5 (by simp)
  have hi5 := (hi1.upd hu24 (by simp)).upd hu5 (by simp)
  have hgt5 := (ht1.upd hu24 (by simp)).upd hu5 (by simp)
  have hu15 := (hu1.trans hu24).trans hu5
  have hne1 : g2 ≠ gt := by omega
  have s14 := hu24.size
  have hqb : q ≠ bw := by omega
  have HBW := Lib.hid hbw
  clear hbw hS4 d0 f0 hown4 hgrow4 hown3 hv3 C3 hown2 hgrow2 hr1 hown1 C1 hS hi1 ht1 hu1 hk3 hu3 hu4 ht2 ht4 hu24 hu2 hu12 hu13
  generalize (w4.alloc (.cells #[.slice (some ⟨g2, 0, none⟩) n c2, .slice (some ⟨g3, 0, none⟩) n n, .slice (some ⟨g4, 0, none⟩) n c4, .int .i8 0, .slice none 0 0, .slice none 0 0, .slice none 0 0, .slice none 0 0] 115)) = w5 at *
  have k1 : bw ≠ q := fun e => hqb e.symm
  have k2 : g2 ≠ q := Row.ne_type ht5 hS5 (by decide)
  have k3 : g3 ≠ q := Row.ne_type hk5 hS5 (by decide)
  have k4 : g4 ≠ q := Row.ne_type hv5 hS5 (by decide)
  have k5 : gi ≠ q := Row.ne_type hi5 hS5 (by decide)
  have k6 : gt ≠ q := Row.ne_type hgt5 hS5 (by decide)
  have hS6 : Sq (w5.setCell ⟨q, 0, none⟩ (.pointer (some ⟨bw, 0, none⟩))) q (.pointer (some ⟨bw, 0, none⟩)) (.slice (some ⟨gi, 0, none⟩) n n) (.slice (some ⟨gt, 0, none⟩) n ct) (.slice none 0 0) lv so so := Row.set hS5 0 (.pointer (some ⟨bw, 0, none⟩)) (by simp [sqCells])
  have hP6 := Row.other hP5 (p := ⟨q, 0, none⟩) k1 (.pointer (some ⟨bw, 0, none⟩))
  have ht6 := ht5.other (p := ⟨q, 0, none⟩) k2 (.pointer (some ⟨bw, 0, none⟩))
  have hk6 := hk5.other (p := ⟨q, 0, none⟩) k3 (.pointer (some ⟨bw, 0, none⟩))
  have hv6 := hv5.other (p := ⟨q, 0, none⟩) k4 (.pointer (some ⟨bw, 0, none⟩))
  have hi6 := hi5.other (p := ⟨q, 0, none⟩) k5 (.pointer (some ⟨bw, 0, none⟩))
  have hg6 := hgt5.other (p := ⟨q, 0, none⟩) k6 (.pointer (some ⟨bw, 0, none⟩))
  have hu6 := hu15.setCell (p := ⟨q, 0, none⟩) (.inr hq) (.pointer (some ⟨bw, 0, none⟩))
  clear hS5 hP5 ht5 hk5 hv5 hi5 hgt5 hu15 hu5
  generalize w5.setCell ⟨q, 0, none⟩ (.pointer (some ⟨bw, 0, none⟩)) = w6 at *
  have C6 := PB.out q bw gt ct gi g2 c2 g3 n g4 c4 w6 hS6 hP6 hg6 hi6 ht6 hk6 hv6 hne1
  have HS6 := Lib.hid hS6
  have hqt := k6
  clear hP6 ht6 hk6 hv6 hi6 hg6 hS6 PB
  go_wp2_with (first
    | (go_at_call 86; refine C6.mono ?_; rintro e w7 ⟨rfl, hr7, hu7⟩; have hS7 := HS6.out.upd hu7 (by simp; exact fun e => hqt e.symm); have d2 := hS7.cells.c2))
  go_ret
  exact ⟨gt, ct, rfl, hr7, hu6.step hu7 fun t ht => .inr (by simp at ht; omega)⟩
end Go.Proofs.YtjahmnenfknjgaaGreatDoor
namespace Go.Proofs.YtjahmnenfknjgaaGreatDoor
open Go.RowKit

set_option maxHeartbeats 8000000 in
set_option maxRecDepth 100000 in
theorem iBrackets_any (A1 A2 A3 A4 : Option Addr) (c1 c2 c3 c4 : Nat) (l cs : List Cl) (ks vs : List Int) (lv : Int) (so : Cl) (w : World) (hT : Tab w) (h1 : Rd w A1 (nums .i64 (clsI l))) (h2 : Rd w A2 (nums .i64 (clsI cs))) (h3 : Rd w A3 (nums .i64 ks)) (h4 : Rd w A4 (nums .i64 vs))
    (hc : cs.length = l.length) (hkn : ks.length = l.length) (hvn : vs.length = l.length) (hm : l.length ≤ 2147483647) (h0 : 0 < l.length) (hvr : ∀ j, j < l.length → 0 ≤ nth vs j ∧ nth vs j ≤ 1114111)
    (hks : ∀ j, j < l.length → nth ks j = 0 ∨ nth ks j = 1 ∨ nth ks j = 2) (hvs : ∀ j, j < l.length → nth ks j ≠ 0 → 0 < nth vs j) (hmk : ∀ j, j < l.length → nth ks j ≠ 0 → cat cs j ≠ .NSM) (hop : opc (signed ks vs) l.length ≤ 63)
    (hl : AllC isN l) (hlv0 : 0 ≤ lv) (hlv1 : lv ≤ 127) (hso : so = .L ∨ so = .R) :
    Calls Tryz.prog 17 #[.slice A1 l.length c1, .slice A2 l.length c2, .slice A3 l.length c3, .slice A4 l.length c4, .int .i64 lv, .int .i64 so.e1] w fun e w' => ∃ g, e = .returned (.slice (some ⟨g, 0, none⟩) l.length l.length) ∧ w.heap.size ≤ g ∧ Row w' g 3 (nums .i64 (clsI (brS l cs (signed ks vs) lv so))) ∧ Upd [] w w' := by
  obtain ⟨n, hn⟩ : ∃ n, n = l.length := ⟨_, rfl⟩
  have hw8 : IntKind.i8.wrap lv = lv := by simp [IntKind.wrap, IntKind.bits, IntKind.signed]; omega
  have K1 : Hid (Calls Tryz.prog 39 #[.slice A1 n c1] w fun e w' => ∃ g, e = .returned (.slice (some ⟨g, 0, none⟩) n n) ∧ Row w' g 77 (clsU l) ∧ Upd [] w w') := by
    rw [hn]; exact (classesOf_any A1 c1 l w hT h1 hm).mono fun _ _ ⟨a1, a2, a3⟩ => ⟨_, a1, a2, a3⟩
  have K2 : Hid (∀ W, Upd [] w W → Calls Tryz.prog 39 #[.slice A2 n c2] W fun e w' => ∃ g, e = .returned (.slice (some ⟨g, 0, none⟩) n n) ∧ Row w' g 77 (clsU cs) ∧ Upd [] W w') := fun W hW => by
    have h := classesOf_any A2 c2 cs W (hT.upd hW (by simp)) (h2.keep hW) (by omega)
    rw [hc, ← hn] at h; exact h.mono fun _ _ ⟨a1, a2, a3⟩ => ⟨_, a1, a2, a3⟩
  have K3 : Hid (∀ W, Upd [] w W → Calls Tryz.prog 40 #[.slice A3 n c3] W fun e w' => ∃ g, e = .returned (.slice (some ⟨g, 0, none⟩) n n) ∧ Row w' g 5 (nums .u8 ks) ∧ Upd [] W w') := fun W hW => by
    have h := bytesOf_any A3 c3 ks W (h3.keep hW) (by omega) (fun j hj => by have := hks j (by omega); omega)
    rw [hkn, ← hn] at h; exact h.mono fun _ _ ⟨a1, a2, a3⟩ => ⟨_, a1, a2, a3⟩
  have K4 : Hid (∀ W, Upd [] w W → Calls Tryz.prog 41 #[.slice A4 n c4] W fun e w' => ∃ g, e = .returned (.slice (some ⟨g, 0, none⟩) n n) ∧ Row w' g 21 (nums .i32 vs) ∧ Upd [] W w') := fun W hW => by
    have h := runesOf_any A4 c4 vs W (h4.keep hW) (by omega) (fun j hj => hvr j (by omega))
    rw [hvn, ← hn] at h; exact h.mono fun _ _ ⟨a1, a2, a3⟩ => ⟨_, a1, a2, a3⟩
  have K5 : Hid (∀ W, Upd [] w W → Tab W) := fun W hW => hT.upd hW (by simp)
  have K6 : Hid (∀ gx gy gk gv W, Row W gx 77 (clsU l) → Row W gy 77 (clsU cs) → Row W gk 5 (nums .u8 ks) → Row W gv 21 (nums .i32 vs) →
      Calls Tryz.prog 51 #[.slice (some ⟨gx, 0, none⟩) n n, .slice (some ⟨gy, 0, none⟩) n n, .slice (some ⟨gk, 0, none⟩) n n, .slice (some ⟨gv, 0, none⟩) n n, .int .i8 lv, .int .u64 so.e2] W fun e w' => ∃ g k, e = .returned (.slice (some ⟨g, 0, none⟩) n k) ∧ Row w' g 77 (clsU (brS l cs (signed ks vs) lv so)) ∧ Upd [] W w') := fun gx gy gk gv W a1 a2 a3 a4 => by
    rw [hn]; exact bracketsX_any gx _ gy _ gk _ gv _ l cs ks vs lv so W a1 a2 a3 a4 hc hkn hvn hm h0 hks hvs hmk hop hl hlv0 hlv1 hso
  have K7 : Hid (∀ g k W, Upd [] w W → Row W g 77 (clsU (brS l cs (signed ks vs) lv so)) → Calls Tryz.prog 42 #[.slice (some ⟨g, 0, none⟩) n k] W fun e w' => ∃ h, e = .returned (.slice (some ⟨h, 0, none⟩) n n) ∧ w.heap.size ≤ h ∧ Row w' h 3 (nums .i64 (clsI (brS l cs (signed ks vs) lv so))) ∧ Upd [] W w') := fun g k W hW hr => by
    have h := numbersOf_any (some ⟨g, 0, none⟩) k (brS l cs (signed ks vs) lv so) W (hT.upd hW (by simp)) (Rd.of_row hr) (by rw [brS_length]; omega)
    rw [brS_length, ← hn] at h
    exact h.mono fun _ _ ⟨a1, a2, a3⟩ => ⟨_, a1, hW.size, a2, a3⟩
  rw [← hn]
  clear hT h1 h2 h3 h4 hc hkn hvn h0 hvr hks hvs hmk hop hl hso hn
  go_enter Tryz.func17, Tryz.ntmps17
  go_wp2_with (first
    | (go_at_call 39; with_reducible refine K1.out.mono ?_; rintro e w1 ⟨x1, rfl, r1, u1⟩; have k2 := K2.out w1 u1)
    | (go_at_call 39; with_reducible refine k2.mono ?_; rintro e w2 ⟨x2, rfl, r2, u2⟩; have u12 := u1.trans u2; have k3 := K3.out w2 u12)
    | (go_at_call 40; refine k3.mono ?_; rintro e w3 ⟨x3, rfl, r3, u3⟩; have u13 := u12.trans u3; have k4 := K4.out w3 u13)
    | (go_at_call 41; refine k4.mono ?_; rintro e w4 ⟨x4, rfl, r4, u4⟩; have u14 := u13.trans u4; have k5 := K5.out w4 u14; have k6 := K6.out x1 x2 x3 x4 w4 (((r1.upd u2 (by simp)).upd u3 (by simp)).upd u4 (by simp)) ((r2.upd u3 (by simp)).upd u4 (by simp)) (r3.upd u4 (by simp)) r4)
    | (go_at_call 50; refine (classOf_any so _ k5).mono ?_; rintro e w5 ⟨rfl, rfl⟩)
    | (go_at_call 51; refine k6.mono ?_; rintro e w6 ⟨x6, c6, rfl, r6, u6⟩; have u16 := u14.trans u6; have k7 := K7.out x6 c6 w6 u16 r6)
    | (go_at_call 42; refine k7.mono ?_; rintro e w7 ⟨x7, rfl, hx7, r7, u7⟩))
  go_ret
  exact ⟨x7, rfl, hx7, r7, u16.trans u7⟩
end Go.Proofs.YtjahmnenfknjgaaGreatDoor
namespace Go.Proofs.YtjahmnenfknjgaaGreatDoor
open Go.RowKit

theorem catch48 (p q : Addr) (w : World) :
    CallsD Tryz.prog 48 #[.pointer (some p), .pointer (some q)] .returning w fun e u' w' => e = .returned (.tuple #[]) ∧ u' = .returning ∧ w' = w := by
  refine callsD_of_wpS Tryz.func48 rfl fun c₀ cs hu => ?_
  apply wpS_seq
  apply wpS_region
  simp [wpOpsS, go_sem, recoverD, hu, Tryz.ntmps48, Exit.thenS]
  refine wpS_cond (t := false) (by simp [Act.eval, Array.replicate]) ?_
  simp only [Bool.false_eq_true, if_false]
  refine wpS_of_wp (wp_skip ?_)
  cases c₀
  simp_all [bodyPostS, results, Tryz.results48]

set_option maxHeartbeats 8000000 in
set_option maxRecDepth 100000 in
theorem iWeak_any (A1 : Option Addr) (c1 : Nat) (l : List Cl) (so eo : Cl) (w : World) (hT : Tab w) (h1 : Rd w A1 (nums .i64 (clsI l))) (hl : AllC Cl.p0 l) (hso : so = .L ∨ so = .R) (heo : eo = .L ∨ eo = .R) (hm : l.length ≤ 2147483647) :
    Calls Tryz.prog 16 #[.slice A1 l.length c1, .int .i64 so.e1, .int .i64 eo.e1] w fun e w' => ∃ g, e = .returned (.tuple #[.slice (some ⟨g, 0, none⟩) l.length l.length, .bool true]) ∧ w.heap.size ≤ g ∧ Row w' g 3 (nums .i64 (clsI (weakP l so))) ∧ Upd [] w w' := by
  have hmf : ∀ (fn : Fn) (first cap : Array Value) (w : World), (Instr.makeFunc fn first cap).run Tryz.prog w = .ok (.func fn first cap) w := fun _ _ _ _ => rfl
  obtain ⟨n, hn⟩ : ∃ n, n = l.length := ⟨_, rfl⟩
  have K1 : Hid (∀ W, Upd [] w W → Calls Tryz.prog 39 #[.slice A1 n c1] W fun e w' => ∃ g, e = .returned (.slice (some ⟨g, 0, none⟩) n n) ∧ Row w' g 77 (clsU l) ∧ Upd [] W w') := fun W hW => by
    rw [hn]; exact (classesOf_any A1 c1 l W (hT.upd hW (by simp)) (h1.keep hW) hm).mono fun _ _ ⟨a1, a2, a3⟩ => ⟨_, a1, a2, a3⟩
  have K5 : Hid (∀ W, Upd [] w W → Tab W) := fun W hW => hT.upd hW (by simp)
  have K6 : Hid (∀ gx W, Row W gx 77 (clsU l) → Calls Tryz.prog 49 #[.slice (some ⟨gx, 0, none⟩) n n, .int .u64 so.e2, .int .u64 eo.e2] W fun e w' => ∃ g k, e = .returned (.slice (some ⟨g, 0, none⟩) n k) ∧ Row w' g 77 (clsU (weakP l so)) ∧ Upd [] W w') := fun gx W a1 => by
    rw [hn]; exact weakX_any gx _ l so eo W a1 hl hso heo hm
  have K7 : Hid (∀ g k W, Upd [] w W → Row W g 77 (clsU (weakP l so)) → Calls Tryz.prog 42 #[.slice (some ⟨g, 0, none⟩) n k] W fun e w' => ∃ h, e = .returned (.slice (some ⟨h, 0, none⟩) n n) ∧ w.heap.size ≤ h ∧ Row w' h 3 (nums .i64 (clsI (weakP l so))) ∧ Upd [] W w') := fun g k W hW hr => by
    have h := numbersOf_any (some ⟨g, 0, none⟩) k (weakP l so) W (hT.upd hW (by simp)) (Rd.of_row hr) (by rw [weakP_length]; omega)
    rw [weakP_length, ← hn] at h
    exact h.mono fun _ _ ⟨a1, a2, a3⟩ => ⟨_, a1, hW.size, a2, a3⟩
  rw [← hn]
  clear hT h1 hl hso heo hm hn
  have k1 := K1.out ((w.alloc (.cells #[.slice none 0 0] 22)).alloc (.cells #[.bool false] 4)) (((Upd.refl [] w).alloc _).alloc _)
  have u0 : Upd [] w ((w.alloc (.cells #[.slice none 0 0] 22)).alloc (.cells #[.bool false] 4)) := ((Upd.refl [] w).alloc _).alloc _
  have HS0 : Hid (Row ((w.alloc (.cells #[.slice none 0 0] 22)).alloc (.cells #[.bool false] 4)) w.heap.size 22 [.slice none 0 0]) := (Row.new w 22 [.slice none 0 0]).alloc _
  have HS1 : Hid (Row ((w.alloc (.cells #[.slice none 0 0] 22)).alloc (.cells #[.bool false] 4)) (w.heap.size + 1) 4 [.bool false]) := by
    have h := Row.new (w.alloc (.cells #[.slice none 0 0] 22)) 4 [.bool false]
    have e : (w.alloc (.cells #[.slice none 0 0] 22)).heap.size = w.heap.size + 1 := by simp
    rw [e] at h; exact h
  go_enter_defers Tryz.func16, Tryz.ntmps16
  go_wp2_with (first
    | (go_at_call 39; with_reducible refine k1.mono ?_; rintro e w1 ⟨x1, rfl, r1, u1⟩; have u01 := u0.trans u1; have k5 := K5.out w1 u01; have k6 := K6.out x1 w1 r1)
    | (go_at_call 50; with_reducible refine (classOf_any so _ k5).mono ?_; rintro e w5 ⟨rfl, rfl⟩)
    | (go_at_call 50; with_reducible refine (classOf_any eo _ k5).mono ?_; rintro e w5 ⟨rfl, rfl⟩)
    | (go_at_call 49; refine k6.mono ?_; rintro e w6 ⟨x6, c6, rfl, r6, u6⟩; have u16 := u01.trans u6; have k7 := K7.out x6 c6 w6 u16 r6)
    | (go_at_call 42; refine k7.mono ?_; rintro e w7 ⟨x7, rfl, hx7, r7, u7⟩; have u07 := ((u1.trans u6).trans u7); have y0 := HS0.out.upd u07 (by simp); have y1 := HS1.out.upd u07 (by simp); have d0 : w7.cell? ⟨w.heap.size, 0, none⟩ = some (.slice none 0 0) := y0.cell 0 (by simp); have f0 := y0.free 0; have d1 : w7.cell? ⟨w.heap.size + 1, 0, none⟩ = some (.bool false) := y1.cell 0 (by simp); have f1 := y1.free 0))
  have z0 := y0.set 0 (.slice (some ⟨x7, 0, none⟩) n n) (by simp)
  have z0' := z0.other (p := ⟨w.heap.size + 1, 0, none⟩) (by show w.heap.size ≠ w.heap.size + 1; omega) (.bool true)
  have z1 := (y1.other (p := ⟨w.heap.size, 0, none⟩) (by show w.heap.size + 1 ≠ w.heap.size; omega) (.slice (some ⟨x7, 0, none⟩) n n)).set 0 (.bool true) (by simp)
  have hx0 : x7 ≠ w.heap.size := Row.ne_type r7 y0 (by decide)
  have hx1 : x7 ≠ w.heap.size + 1 := Row.ne_type r7 y1 (by decide)
  have r8 := (r7.other (p := ⟨w.heap.size, 0, none⟩) hx0 (.slice (some ⟨x7, 0, none⟩) n n)).other (p := ⟨w.heap.size + 1, 0, none⟩) hx1 (.bool true)
  have u8 := ((u0.trans u07).setCell (p := ⟨w.heap.size, 0, none⟩) (.inr (Nat.le_refl _)) (.slice (some ⟨x7, 0, none⟩) n n)).setCell (p := ⟨w.heap.size + 1, 0, none⟩) (.inr (Nat.le_succ _)) (.bool true)
  clear d0 f0 d1 f1 y0 y1 z0 r7 u07 u16 u01 k1 k5 k6 k7 r1 r6
  generalize (w7.setCell ⟨w.heap.size, 0, none⟩ (.slice (some ⟨x7, 0, none⟩) n n)).setCell ⟨w.heap.size + 1, 0, none⟩ (.bool true) = w8 at *
  have e0 : w8.cell? ⟨w.heap.size, 0, none⟩ = some (.slice (some ⟨x7, 0, none⟩) n n) := z0'.cell 0 (by simp)
  have e1 : w8.cell? ⟨w.heap.size + 1, 0, none⟩ = some (.bool true) := z1.cell 0 (by simp)
  refine leaves_cons (f := 48) (args := #[.pointer (some ⟨w.heap.size, 0, none⟩), .pointer (some ⟨w.heap.size + 1, 0, none⟩)]) (by simp) (by simp [go_sem]) ?_
  refine (catch48 _ _ _).mono ?_
  rintro e u' w'' ⟨rfl, rfl, rfl⟩
  have HR8 := Lib.hid r8
  have HU8 := Lib.hid u8
  clear r8 u8 z0' z1
  simp [Leaves, settle, results, Tryz.results16, go_sem, e0, e1]
  exact ⟨hx7, HR8.out, HU8.out⟩
theorem catch52 (p q : Addr) (w : World) :
    CallsD Tryz.prog 52 #[.pointer (some p), .pointer (some q)] .returning w fun e u' w' => e = .returned (.tuple #[]) ∧ u' = .returning ∧ w' = w := by
  refine callsD_of_wpS Tryz.func52 rfl fun c₀ cs hu => ?_
  apply wpS_seq
  apply wpS_region
  simp [wpOpsS, go_sem, recoverD, hu, Tryz.ntmps52, Exit.thenS]
  refine wpS_cond (t := false) (by simp [Act.eval, Array.replicate]) ?_
  simp only [Bool.false_eq_true, if_false]
  refine wpS_of_wp (wp_skip ?_)
  cases c₀
  simp_all [bodyPostS, results, Tryz.results52]

set_option maxHeartbeats 8000000 in
set_option maxRecDepth 100000 in
theorem iNeutral_any (A1 : Option Addr) (c1 : Nat) (l : List Cl) (lv : Int) (so eo : Cl) (w : World) (hT : Tab w) (h1 : Rd w A1 (nums .i64 (clsI l))) (hl : AllC isN l) (hso : so = .L ∨ so = .R) (heo : eo = .L ∨ eo = .R) (hlv0 : 0 ≤ lv) (hlv1 : lv ≤ 127) (hm : l.length ≤ 2147483647) :
    Calls Tryz.prog 18 #[.slice A1 l.length c1, .int .i64 lv, .int .i64 so.e1, .int .i64 eo.e1] w fun e w' => ∃ g, e = .returned (.tuple #[.slice (some ⟨g, 0, none⟩) l.length l.length, .bool true]) ∧ w.heap.size ≤ g ∧ Row w' g 3 (nums .i64 (clsI (neuS l lv so eo))) ∧ Upd [] w w' := by
  have hmf : ∀ (fn : Fn) (first cap : Array Value) (w : World), (Instr.makeFunc fn first cap).run Tryz.prog w = .ok (.func fn first cap) w := fun _ _ _ _ => rfl
  have hw8 : IntKind.i8.wrap lv = lv := by simp [IntKind.wrap, IntKind.bits, IntKind.signed]; omega
  obtain ⟨n, hn⟩ : ∃ n, n = l.length := ⟨_, rfl⟩
  have K1 : Hid (∀ W, Upd [] w W → Calls Tryz.prog 39 #[.slice A1 n c1] W fun e w' => ∃ g, e = .returned (.slice (some ⟨g, 0, none⟩) n n) ∧ Row w' g 77 (clsU l) ∧ Upd [] W w') := fun W hW => by
    rw [hn]; exact (classesOf_any A1 c1 l W (hT.upd hW (by simp)) (h1.keep hW) hm).mono fun _ _ ⟨a1, a2, a3⟩ => ⟨_, a1, a2, a3⟩
  have K5 : Hid (∀ W, Upd [] w W → Tab W) := fun W hW => hT.upd hW (by simp)
  have K6 : Hid (∀ gx W, Row W gx 77 (clsU l) → Calls Tryz.prog 53 #[.slice (some ⟨gx, 0, none⟩) n n, .int .i8 lv, .int .u64 so.e2, .int .u64 eo.e2] W fun e w' => ∃ g k, e = .returned (.slice (some ⟨g, 0, none⟩) n k) ∧ Row w' g 77 (clsU (neuS l lv so eo)) ∧ Upd [] W w') := fun gx W a1 => by
    rw [hn]; exact neutralX_any gx _ l lv so eo W a1 hl hlv0 hlv1 hso heo hm
  have K7 : Hid (∀ g k W, Upd [] w W → Row W g 77 (clsU (neuS l lv so eo)) → Calls Tryz.prog 42 #[.slice (some ⟨g, 0, none⟩) n k] W fun e w' => ∃ h, e = .returned (.slice (some ⟨h, 0, none⟩) n n) ∧ w.heap.size ≤ h ∧ Row w' h 3 (nums .i64 (clsI (neuS l lv so eo))) ∧ Upd [] W w') := fun g k W hW hr => by
    have h := numbersOf_any (some ⟨g, 0, none⟩) k (neuS l lv so eo) W (hT.upd hW (by simp)) (Rd.of_row hr) (by rw [neuS_length]; omega)
    rw [neuS_length, ← hn] at h
    exact h.mono fun _ _ ⟨a1, a2, a3⟩ => ⟨_, a1, hW.size, a2, a3⟩
  rw [← hn]
  clear hT h1 hl hso heo hm hn
  have k1 := K1.out ((w.alloc (.cells #[.slice none 0 0] 22)).alloc (.cells #[.bool false] 4)) (((Upd.refl [] w).alloc _).alloc _)
  have u0 : Upd [] w ((w.alloc (.cells #[.slice none 0 0] 22)).alloc (.cells #[.bool false] 4)) := ((Upd.refl [] w).alloc _).alloc _
  have HS0 : Hid (Row ((w.alloc (.cells #[.slice none 0 0] 22)).alloc (.cells #[.bool false] 4)) w.heap.size 22 [.slice none 0 0]) := (Row.new w 22 [.slice none 0 0]).alloc _
  have HS1 : Hid (Row ((w.alloc (.cells #[.slice none 0 0] 22)).alloc (.cells #[.bool false] 4)) (w.heap.size + 1) 4 [.bool false]) := by
    have h := Row.new (w.alloc (.cells #[.slice none 0 0] 22)) 4 [.bool false]
    have e : (w.alloc (.cells #[.slice none 0 0] 22)).heap.size = w.heap.size + 1 := by simp
    rw [e] at h; exact h
  go_enter_defers Tryz.func18, Tryz.ntmps18
  go_wp2_with (first
    | (go_at_call 39; with_reducible refine k1.mono ?_; rintro e w1 ⟨x1, rfl, r1, u1⟩; have u01 := u0.trans u1; have k5 := K5.out w1 u01; have k6 := K6.out x1 w1 r1)
    | (go_at_call 50; with_reducible refine (classOf_any so _ k5).mono ?_; rintro e w5 ⟨rfl, rfl⟩)
    | (go_at_call 50; with_reducible refine (classOf_any eo _ k5).mono ?_; rintro e w5 ⟨rfl, rfl⟩)
    | (go_at_call 53; refine k6.mono ?_; rintro e w6 ⟨x6, c6, rfl, r6, u6⟩; have u16 := u01.trans u6; have k7 := K7.out x6 c6 w6 u16 r6)
    | (go_at_call 42; refine k7.mono ?_; rintro e w7 ⟨x7, rfl, hx7, r7, u7⟩; have u07 := ((u1.trans u6).trans u7); have y0 := HS0.out.upd u07 (by simp); have y1 := HS1.out.upd u07 (by simp); have d0 : w7.cell? ⟨w.heap.size, 0, none⟩ = some (.slice none 0 0) := y0.cell 0 (by simp); have f0 := y0.free 0; have d1 : w7.cell? ⟨w.heap.size + 1, 0, none⟩ = some (.bool false) := y1.cell 0 (by simp); have f1 := y1.free 0))
  have z0 := y0.set 0 (.slice (some ⟨x7, 0, none⟩) n n) (by simp)
  have z0' := z0.other (p := ⟨w.heap.size + 1, 0, none⟩) (by show w.heap.size ≠ w.heap.size + 1; omega) (.bool true)
  have z1 := (y1.other (p := ⟨w.heap.size, 0, none⟩) (by show w.heap.size + 1 ≠ w.heap.size; omega) (.slice (some ⟨x7, 0, none⟩) n n)).set 0 (.bool true) (by simp)
  have hx0 : x7 ≠ w.heap.size := Row.ne_type r7 y0 (by decide)
  have hx1 : x7 ≠ w.heap.size + 1 := Row.ne_type r7 y1 (by decide)
  have r8 := (r7.other (p := ⟨w.heap.size, 0, none⟩) hx0 (.slice (some ⟨x7, 0, none⟩) n n)).other (p := ⟨w.heap.size + 1, 0, none⟩) hx1 (.bool true)
  have u8 := ((u0.trans u07).setCell (p := ⟨w.heap.size, 0, none⟩) (.inr (Nat.le_refl _)) (.slice (some ⟨x7, 0, none⟩) n n)).setCell (p := ⟨w.heap.size + 1, 0, none⟩) (.inr (Nat.le_succ _)) (.bool true)
  clear d0 f0 d1 f1 y0 y1 z0 r7 u07 u16 u01 k1 k5 k6 k7 r1 r6
  generalize (w7.setCell ⟨w.heap.size, 0, none⟩ (.slice (some ⟨x7, 0, none⟩) n n)).setCell ⟨w.heap.size + 1, 0, none⟩ (.bool true) = w8 at *
  have e0 : w8.cell? ⟨w.heap.size, 0, none⟩ = some (.slice (some ⟨x7, 0, none⟩) n n) := z0'.cell 0 (by simp)
  have e1 : w8.cell? ⟨w.heap.size + 1, 0, none⟩ = some (.bool true) := z1.cell 0 (by simp)
  refine leaves_cons (f := 52) (args := #[.pointer (some ⟨w.heap.size, 0, none⟩), .pointer (some ⟨w.heap.size + 1, 0, none⟩)]) (by simp) (by simp [go_sem]) ?_
  refine (catch52 _ _ _).mono ?_
  rintro e u' w'' ⟨rfl, rfl, rfl⟩
  have HR8 := Lib.hid r8
  have HU8 := Lib.hid u8
  clear r8 u8 z0' z1
  simp [Leaves, settle, results, Tryz.results18, go_sem, e0, e1]
  exact ⟨hx7, HR8.out, HU8.out⟩
theorem catch54 (p q : Addr) (w : World) :
    CallsD Tryz.prog 54 #[.pointer (some p), .pointer (some q)] .returning w fun e u' w' => e = .returned (.tuple #[]) ∧ u' = .returning ∧ w' = w := by
  refine callsD_of_wpS Tryz.func54 rfl fun c₀ cs hu => ?_
  apply wpS_seq
  apply wpS_region
  simp [wpOpsS, go_sem, recoverD, hu, Tryz.ntmps54, Exit.thenS]
  refine wpS_cond (t := false) (by simp [Act.eval, Array.replicate]) ?_
  simp only [Bool.false_eq_true, if_false]
  refine wpS_of_wp (wp_skip ?_)
  cases c₀
  simp_all [bodyPostS, results, Tryz.results54]

set_option maxHeartbeats 8000000 in
set_option maxRecDepth 100000 in
theorem iImplicit_any (A1 : Option Addr) (c1 : Nat) (l : List Cl) (lv : Int) (w : World) (hT : Tab w) (h1 : Rd w A1 (nums .i64 (clsI l))) (hl : AllC Cl.p4 l) (hlv0 : 0 ≤ lv) (hlv1 : lv ≤ 125) (hm : l.length ≤ 2147483647) :
    Calls Tryz.prog 20 #[.slice A1 l.length c1, .int .i64 lv] w fun e w' => ∃ g, e = .returned (.tuple #[.slice (some ⟨g, 0, none⟩) l.length l.length, .bool true]) ∧ w.heap.size ≤ g ∧ Row w' g 3 (nums .i64 (impS l lv)) ∧ Upd [] w w' := by
  have hmf : ∀ (fn : Fn) (first cap : Array Value) (w : World), (Instr.makeFunc fn first cap).run Tryz.prog w = .ok (.func fn first cap) w := fun _ _ _ _ => rfl
  have hw8 : IntKind.i8.wrap lv = lv := by simp [IntKind.wrap, IntKind.bits, IntKind.signed]; omega
  have HIR : Hid (∀ j, j < l.length → -128 ≤ nth (impS l lv) j ∧ nth (impS l lv) j ≤ 127) := fun j hj => by
    rw [nth_impS hj]
    have h2 : lv ≤ ilv lv (cat l j) ∧ ilv lv (cat l j) ≤ lv + 2 := by
      unfold ilv
      split <;> split <;> (try split) <;> omega
    omega
  obtain ⟨n, hn⟩ : ∃ n, n = l.length := ⟨_, rfl⟩
  have K1 : Hid (∀ W, Upd [] w W → Calls Tryz.prog 39 #[.slice A1 n c1] W fun e w' => ∃ g, e = .returned (.slice (some ⟨g, 0, none⟩) n n) ∧ Row w' g 77 (clsU l) ∧ Upd [] W w') := fun W hW => by
    rw [hn]; exact (classesOf_any A1 c1 l W (hT.upd hW (by simp)) (h1.keep hW) hm).mono fun _ _ ⟨a1, a2, a3⟩ => ⟨_, a1, a2, a3⟩
  have K5 : Hid (∀ W, Upd [] w W → Tab W) := fun W hW => hT.upd hW (by simp)
  have K6 : Hid (∀ gx W, Row W gx 77 (clsU l) → Calls Tryz.prog 55 #[.slice (some ⟨gx, 0, none⟩) n n, .int .i8 lv] W fun e w' => ∃ g, e = .returned (.slice (some ⟨g, 0, none⟩) n n) ∧ Row w' g 60 (nums .i8 (impS l lv)) ∧ Upd [] W w') := fun gx W a1 => by
    rw [hn]; exact implicitX_any gx _ l lv W a1 hl hlv0 hlv1 hm
  have K7 : Hid (∀ g k W, Upd [] w W → Row W g 60 (nums .i8 (impS l lv)) → Calls Tryz.prog 43 #[.slice (some ⟨g, 0, none⟩) n k] W fun e w' => ∃ h, e = .returned (.slice (some ⟨h, 0, none⟩) n n) ∧ w.heap.size ≤ h ∧ Row w' h 3 (nums .i64 (impS l lv)) ∧ Upd [] W w') := fun g k W hW hr => by
    have h := largeOf_any (some ⟨g, 0, none⟩) k (impS l lv) W (Rd.of_row hr) (by rw [impS_length]; omega) (fun j hj => HIR.out j (by rw [impS_length] at hj; exact hj))
    rw [impS_length, ← hn] at h
    exact h.mono fun _ _ ⟨a1, a2, a3⟩ => ⟨_, a1, hW.size, a2, a3⟩
  rw [← hn]
  clear hT h1 hl hm hn
  have k1 := K1.out ((w.alloc (.cells #[.slice none 0 0] 22)).alloc (.cells #[.bool false] 4)) (((Upd.refl [] w).alloc _).alloc _)
  have u0 : Upd [] w ((w.alloc (.cells #[.slice none 0 0] 22)).alloc (.cells #[.bool false] 4)) := ((Upd.refl [] w).alloc _).alloc _
  have HS0 : Hid (Row ((w.alloc (.cells #[.slice none 0 0] 22)).alloc (.cells #[.bool false] 4)) w.heap.size 22 [.slice none 0 0]) := (Row.new w 22 [.slice none 0 0]).alloc _
  have HS1 : Hid (Row ((w.alloc (.cells #[.slice none 0 0] 22)).alloc (.cells #[.bool false] 4)) (w.heap.size + 1) 4 [.bool false]) := by
    have h := Row.new (w.alloc (.cells #[.slice none 0 0] 22)) 4 [.bool false]
    have e : (w.alloc (.cells #[.slice none 0 0] 22)).heap.size = w.heap.size + 1 := by simp
    rw [e] at h; exact h
  go_enter_defers Tryz.func20, Tryz.ntmps20
  go_wp2_with (first
    | (go_at_call 39; with_reducible refine k1.mono ?_; rintro e w1 ⟨x1, rfl, r1, u1⟩; have u01 := u0.trans u1; have k5 := K5.out w1 u01; have k6 := K6.out x1 w1 r1)
    | (go_at_call 55; refine k6.mono ?_; rintro e w6 ⟨x6, rfl, r6, u6⟩; have u16 := u01.trans u6; have k7 := K7.out x6 n w6 u16 r6)
    | (go_at_call 43; refine k7.mono ?_; rintro e w7 ⟨x7, rfl, hx7, r7, u7⟩; have u07 := ((u1.trans u6).trans u7); have y0 := HS0.out.upd u07 (by simp); have y1 := HS1.out.upd u07 (by simp); have d0 : w7.cell? ⟨w.heap.size, 0, none⟩ = some (.slice none 0 0) := y0.cell 0 (by simp); have f0 := y0.free 0; have d1 : w7.cell? ⟨w.heap.size + 1, 0, none⟩ = some (.bool false) := y1.cell 0 (by simp); have f1 := y1.free 0))
  have z0 := y0.set 0 (.slice (some ⟨x7, 0, none⟩) n n) (by simp)
  have z0' := z0.other (p := ⟨w.heap.size + 1, 0, none⟩) (by show w.heap.size ≠ w.heap.size + 1; omega) (.bool true)
  have z1 := (y1.other (p := ⟨w.heap.size, 0, none⟩) (by show w.heap.size + 1 ≠ w.heap.size; omega) (.slice (some ⟨x7, 0, none⟩) n n)).set 0 (.bool true) (by simp)
  have hx0 : x7 ≠ w.heap.size := Row.ne_type r7 y0 (by decide)
  have hx1 : x7 ≠ w.heap.size + 1 := Row.ne_type r7 y1 (by decide)
  have r8 := (r7.other (p := ⟨w.heap.size, 0, none⟩) hx0 (.slice (some ⟨x7, 0, none⟩) n n)).other (p := ⟨w.heap.size + 1, 0, none⟩) hx1 (.bool true)
  have u8 := ((u0.trans u07).setCell (p := ⟨w.heap.size, 0, none⟩) (.inr (Nat.le_refl _)) (.slice (some ⟨x7, 0, none⟩) n n)).setCell (p := ⟨w.heap.size + 1, 0, none⟩) (.inr (Nat.le_succ _)) (.bool true)
  clear d0 f0 d1 f1 y0 y1 z0 r7 u07 u16 u01 k1 k5 k6 k7 r1 r6
  generalize (w7.setCell ⟨w.heap.size, 0, none⟩ (.slice (some ⟨x7, 0, none⟩) n n)).setCell ⟨w.heap.size + 1, 0, none⟩ (.bool true) = w8 at *
  have e0 : w8.cell? ⟨w.heap.size, 0, none⟩ = some (.slice (some ⟨x7, 0, none⟩) n n) := z0'.cell 0 (by simp)
  have e1 : w8.cell? ⟨w.heap.size + 1, 0, none⟩ = some (.bool true) := z1.cell 0 (by simp)
  refine leaves_cons (f := 54) (args := #[.pointer (some ⟨w.heap.size, 0, none⟩), .pointer (some ⟨w.heap.size + 1, 0, none⟩)]) (by simp) (by simp [go_sem]) ?_
  refine (catch54 _ _ _).mono ?_
  rintro e u' w'' ⟨rfl, rfl, rfl⟩
  have HR8 := Lib.hid r8
  have HU8 := Lib.hid u8
  clear r8 u8 z0' z1
  simp [Leaves, settle, results, Tryz.results20, go_sem, e0, e1]
  exact ⟨hx7, HR8.out, HU8.out⟩
end Go.Proofs.YtjahmnenfknjgaaGreatDoor
