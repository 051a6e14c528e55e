/- sort's partialInsertionSort at pairs of brackets, by its contract. -/
import Derived.Test.YtjahmnenfknjgaaGreatDoorG18
import Derived.Deep.DeepCutAuto
import Derived.Test.YtjahmnenfknjgaaGreatDoorG17
import Derived.Sort.Walk13
set_option linter.unusedVariables false
set_option linter.unusedSimpArgs false
namespace Go.Proofs.YtjahmnenfknjgaaGreatDoor
open Go.RowKit Go.Sort

theorem SS.thn {blk : Nat} {w0 w w' : World} {d d' : PA} (h : SS blk w0 d w) (k : SS blk w d' w') : SS blk w0 d' w' := ⟨k.pr, h.up.trans k.up, k.sz.trans h.sz⟩

set_option maxHeartbeats 16000000 in
set_option maxRecDepth 100000 in
theorem partIns_any {rv : Value} {blk n : Nat} (hR : Srt rv blk n) (a b : Nat) (d : PA) (w : World) (h : PR w blk d) (hn : d.size = n) (hab : a < b) (hb : b ≤ n) :
    Calls Tryz.prog 158 #[.iface 149 rv, .int .i64 a, .int .i64 b] w fun e w' => e = .returned (.bool (Sort.partialInsertionSort ltO d a b).2) ∧ SS blk w (Sort.partialInsertionSort ltO d a b).1 w' := by
  have mL := hR.ml
  have mS := hR.ms
  have hm := hR.hm
  have H0 := Lib.hid h
  have HN := Lib.hid hn
  have HR := Lib.hid hR
  clear h hn hR
  go_enter Tryz.func158, Tryz.ntmps158
  go_wp2
  go_loopg [7, 8] 6 (fun k vi vs wr => ∃ (i s : Nat) (dk : PA), vi = .int .i64 i ∧ vs = .int .i64 s ∧ s ≤ 5 ∧ a < i ∧ i ≤ b ∧ Hid (dk.size = n) ∧ SS blk w dk wr ∧ Hid (partialIns ltO a b (5 - s) i dk = partialIns ltO a b 5 (a + 1) d) ∧ Hid (5 - s ≤ k))
  case atStart => exact ⟨a + 1, 0, d, by go_num, rfl, by omega, by omega, by omega, HN.out, SS.start H0.out, rfl, by show _ ≤ _; omega⟩
  case round =>
    obtain ⟨i, s, dk, rfl, rfl, hs5, hai, hib, hsk, hS, HO, hk⟩ := hrel
    by_cases hs : s < 5
    · have hsb : decide ((s : Int) < 5) = true := decide_eq_true (by omega)
      go_wp2
      go_loopg [7] (b + 1) (fun k vi wr => ∃ (x : Nat), vi = .int .i64 x ∧ i ≤ x ∧ x ≤ b ∧ SS blk w dk wr ∧ Hid (scanSorted ltO dk b x = scanSorted ltO dk b i) ∧ Hid (b - x ≤ k))
      case atStart => exact ⟨i, rfl, Nat.le_refl _, hib, hS, rfl, by show _ ≤ _; omega⟩
      case round =>
        clear hS
        obtain ⟨x, rfl, hix, hxb, hS, HSc, hk1⟩ := hrel
        by_cases hlt : x < b
        · obtain ⟨y, hy⟩ : ∃ y, y = x - 1 := ⟨_, rfl⟩
          have ey : (x : Int) - 1 = y := by omega
          cases hlv : ltO dk[x]! dk[x - 1]! with
          | false =>
            have HV : Hid (ltO dk[x]! dk[y]! = false) := by show _ = _; rw [hy]; exact hlv
            have HG : Hid (scanSorted ltO dk b (x + 1) = scanSorted ltO dk b i) := by show _ = _; rw [← HSc.out, scanSorted_go ltO dk b x hlt hlv]
            have HY := Lib.hid hy
            clear hlv hy
            go_wp2_with (go_at_call 185; refine (HR.out.lessV x y hS.pr hsk.out (by omega) (by have := HY.out; omega) HV.out rfl rfl).mono ?_; rintro e w1 ⟨rfl, hu1⟩)
            go_roundg (b - (x + 1))
            case measure => have := hk1.out; omega
            case rel => exact ⟨x + 1, by go_num, by omega, by omega, hS.upd0 hu1, HG, Nat.le_refl _⟩
          | true =>
            have HV : Hid (ltO dk[x]! dk[y]! = true) := by show _ = _; rw [hy]; exact hlv
            have HK : Hid (scanSorted ltO dk b i = x) := by show _ = _; rw [← HSc.out, scanSorted_stop ltO dk b x (Or.inr hlv)]
            have hxne : ((x : Int) == (b : Int)) = false := beq_eq_false_iff_ne.2 (by omega)
            have hyn : y < n := by omega
            have hyx : y < x := by omega
            by_cases h50 : b - a < 50
            · have h50z : (b : Int) - (a : Int) < 50 := by omega
              have HE : Hid (Sort.partialInsertionSort ltO d a b = (dk, false)) := by show _ = _; unfold Sort.partialInsertionSort; rw [← HO.out, pi_short ltO a b s i dk hs (by rw [HK.out]; omega) h50]
              clear hlv hy
              go_wp2_with (go_at_call 185; refine (HR.out.lessV x y hS.pr hsk.out (by omega) hyn HV.out rfl rfl).mono ?_; rintro e w1 ⟨rfl, hu1⟩)
              go_ret
              rw [HE.out]
              exact ⟨rfl, hS.upd0 hu1⟩
            · have h50z : ¬ (b : Int) - (a : Int) < 50 := by omega
              have HPG : Hid (partialIns ltO a b (5 - s) i dk = partialIns ltO a b (5 - (s + 1)) x (fixUp ltO b x (fixDown ltO a x (swp dk x y)))) := by show _ = _; rw [hy]; exact pi_go ltO a b s i x dk hs HK.out (by omega) h50
              obtain ⟨d1, hd1⟩ : ∃ d1, d1 = swp dk x y := ⟨_, rfl⟩
              have hz1 : Hid (d1.size = n) := by show _ = _; rw [hd1, size_swp]; exact hsk.out
              have HY := Lib.hid hy
              have HSW : Hid (∀ w, PR w blk dk → Calls Tryz.prog 186 #[rv, .int .i64 x, .int .i64 y] w fun e w' => e = .returned (.tuple #[]) ∧ SS blk w d1 w') := fun w hw => by rw [hd1]; exact HR.out.swapV x y hw hsk.out (by omega) (by omega) rfl rfl
              rw [← hd1] at HPG
              clear hlv hy hd1
              go_upto_if 45 with (first
                | (go_at_call 185; refine (HR.out.lessV x y hS.pr hsk.out (by omega) hyn HV.out rfl rfl).mono ?_; rintro e w1 ⟨rfl, hu1⟩; have hS1 := hS.upd0 hu1)
                | (go_at_call 186; refine (HSW.out _ hS1.pr).mono ?_; rintro e w2 ⟨rfl, hS2⟩))
              have hS3 := hS1.thn hS2
              clear hS1 hS2 hu1 hS
              go_cut [] (fun wx => SS blk w (fixDown ltO a x d1) wx ∧ Hid ((fixDown ltO a x d1).size = n))
              case first =>
                by_cases hxa : x - a ≥ 2
                · have hxaz : decide ((2 : Int) ≤ (x : Int) - (a : Int)) = true := decide_eq_true (by omega)
                  simp only [hxaz]
                  go_wp2
                  go_loopg [9] (x + 1) (fun k vj wr3 => ∃ (j : Nat) (dj : PA), vj = .int .i64 j ∧ j ≤ y ∧ Hid (dj.size = n) ∧ SS blk w dj wr3 ∧ Hid (shiftDown ltO j dj = shiftDown ltO (x - 1) d1) ∧ Hid (j ≤ k))
                  case atStart => exact ⟨y, d1, rfl, Nat.le_refl _, hz1, hS3, by show _ = _; rw [HY.out], by show _ ≤ _; omega⟩
                  case round =>
                    clear hS3
                    obtain ⟨j, dj, rfl, hjy, hzj, hS, HDn, hk2⟩ := hrel
                    by_cases hj1 : 1 ≤ j
                    · obtain ⟨t, ht⟩ : ∃ t, t = j - 1 := ⟨_, rfl⟩
                      have et : (j : Int) - 1 = t := by omega
                      cases hlv : ltO dj[j]! dj[j - 1]! with
                      | true =>
                        have HV2 : Hid (ltO dj[j]! dj[t]! = true) := by show _ = _; rw [ht]; exact hlv
                        have HG : Hid (shiftDown ltO t (swp dj j t) = shiftDown ltO (x - 1) d1) := by show _ = _; rw [← HDn.out, shiftDown_go ltO j dj hj1 hlv, ht]
                        have HT := Lib.hid ht
                        have htn : t < n := by omega
                        have hjn : j < n := by omega
                        have hty : t ≤ y := by omega
                        clear hlv ht
                        go_wp2_with (first
                          | (go_at_call 185; refine (HR.out.lessV j t hS.pr hzj.out hjn htn HV2.out rfl rfl).mono ?_; rintro e w1 ⟨rfl, hu1⟩; have hS1 := hS.upd0 hu1)
                          | (go_at_call 186; refine (HR.out.swapV j t hS1.pr hzj.out hjn htn rfl rfl).mono ?_; rintro e w2 ⟨rfl, hS2⟩))
                        go_roundg t
                        case measure => have := hk2.out; have := HT.out; omega
                        case rel => exact ⟨t, swp dj j t, rfl, hty, by show _ = _; rw [size_swp]; exact hzj.out, hS1.thn hS2, HG, Nat.le_refl _⟩
                      | false =>
                        have HV2 : Hid (ltO dj[j]! dj[t]! = false) := by show _ = _; rw [ht]; exact hlv
                        have HD : Hid (fixDown ltO a x d1 = dj) := by show _ = _; unfold fixDown; rw [if_pos hxa, ← HDn.out, shiftDown_stop ltO j dj (Or.inr hlv)]
                        have htn : t < n := by omega
                        have hjn : j < n := by omega
                        clear hlv ht
                        go_wp2_with (go_at_call 185; refine (HR.out.lessV j t hS.pr hzj.out hjn htn HV2.out rfl rfl).mono ?_; rintro e w1 ⟨rfl, hu1⟩)
                        go_meet
                        case rel => rw [HD.out]; exact ⟨hS.upd0 hu1, hzj⟩
                    · have HD : Hid (fixDown ltO a x d1 = dj) := by show _ = _; unfold fixDown; rw [if_pos hxa, ← HDn.out, shiftDown_stop ltO j dj (Or.inl (by omega))]
                      go_wp2
                      go_meet
                      case rel => rw [HD.out]; exact ⟨hS, hzj⟩
                · have hxaz : ¬ (2 : Int) ≤ (x : Int) - (a : Int) := by omega
                  have HD : Hid (fixDown ltO a x d1 = d1) := by show _ = _; unfold fixDown; rw [if_neg hxa]
                  go_wp2
                  go_meet
                  case rel => rw [HD.out]; exact ⟨hS3, hz1⟩
              case rest =>
                obtain ⟨hS4, hz2⟩ := hcut
                obtain ⟨d2, hd2⟩ : ∃ d2, d2 = fixDown ltO a x d1 := ⟨_, rfl⟩
                rw [← hd2] at hS4 hz2 HPG
                clear hd2 hS3 HSW
                by_cases hbx : b - x ≥ 2
                · have hbxz : decide ((2 : Int) ≤ (b : Int) - (x : Int)) = true := decide_eq_true (by omega)
                  go_wp2
                  go_loopg [10] (b + 1) (fun k vj wr4 => ∃ (j : Nat) (du : PA), vj = .int .i64 j ∧ x + 1 ≤ j ∧ j ≤ b ∧ Hid (du.size = n) ∧ SS blk w du wr4 ∧ Hid (shiftUp ltO b j du = shiftUp ltO b (x + 1) d2) ∧ Hid (b - j ≤ k))
                  case atStart => exact ⟨x + 1, d2, by go_num, Nat.le_refl _, by omega, hz2, hS4, rfl, by show _ ≤ _; omega⟩
                  case round =>
                    clear hS4
                    obtain ⟨j, du, rfl, hxj, hjb, hzj, hS, HU, hk2⟩ := hrel
                    by_cases hjb' : j < b
                    · obtain ⟨t, ht⟩ : ∃ t, t = j - 1 := ⟨_, rfl⟩
                      have et : (j : Int) - 1 = t := by omega
                      have htn : t < n := by omega
                      have hjn : j < n := by omega
                      cases hlv : ltO du[j]! du[j - 1]! with
                      | true =>
                        have HV2 : Hid (ltO du[j]! du[t]! = true) := by show _ = _; rw [ht]; exact hlv
                        have HG : Hid (shiftUp ltO b (j + 1) (swp du j t) = shiftUp ltO b (x + 1) d2) := by show _ = _; rw [← HU.out, shiftUp_go ltO b j du hjb' hlv, ht]
                        clear hlv ht
                        go_wp2_with (first
                          | (go_at_call 185; refine (HR.out.lessV j t hS.pr hzj.out hjn htn HV2.out rfl rfl).mono ?_; rintro e w1 ⟨rfl, hu1⟩; have hS1 := hS.upd0 hu1)
                          | (go_at_call 186; refine (HR.out.swapV j t hS1.pr hzj.out hjn htn rfl rfl).mono ?_; rintro e w2 ⟨rfl, hS2⟩))
                        go_roundg (b - (j + 1))
                        case measure => have := hk2.out; omega
                        case rel => exact ⟨j + 1, swp du j t, by go_num, by omega, by omega, by show _ = _; rw [size_swp]; exact hzj.out, hS1.thn hS2, HG, Nat.le_refl _⟩
                      | false =>
                        have HV2 : Hid (ltO du[j]! du[t]! = false) := by show _ = _; rw [ht]; exact hlv
                        have HD : Hid (fixUp ltO b x d2 = du) := by show _ = _; unfold fixUp; rw [if_pos hbx, ← HU.out, shiftUp_stop ltO b j du (Or.inr hlv)]
                        clear hlv ht
                        go_wp2_with (go_at_call 185; refine (HR.out.lessV j t hS.pr hzj.out hjn htn HV2.out rfl rfl).mono ?_; rintro e w1 ⟨rfl, hu1⟩)
                        go_roundg (5 - (s + 1))
                        case measure => have := hk.out; omega
                        case rel => exact ⟨x, s + 1, fixUp ltO b x d2, rfl, by go_num, by omega, by omega, by omega, by rw [HD.out]; exact hzj, by rw [HD.out]; exact hS.upd0 hu1, by show _ = _; rw [← HO.out, HPG.out], Nat.le_refl _⟩
                    · have HD : Hid (fixUp ltO b x d2 = du) := by show _ = _; unfold fixUp; rw [if_pos hbx, ← HU.out, shiftUp_stop ltO b j du (Or.inl hjb')]
                      go_wp2
                      go_roundg (5 - (s + 1))
                      case measure => have := hk.out; omega
                      case rel => exact ⟨x, s + 1, fixUp ltO b x d2, rfl, by go_num, by omega, by omega, by omega, by rw [HD.out]; exact hzj, by rw [HD.out]; exact hS, by show _ = _; rw [← HO.out, HPG.out], Nat.le_refl _⟩
                · have hbxz : ¬ (2 : Int) ≤ (b : Int) - (x : Int) := by omega
                  have HD : Hid (fixUp ltO b x d2 = d2) := by show _ = _; unfold fixUp; rw [if_neg hbx]
                  go_wp2
                  go_roundg (5 - (s + 1))
                  case measure => have := hk.out; omega
                  case rel => exact ⟨x, s + 1, fixUp ltO b x d2, rfl, by go_num, by omega, by omega, by omega, by rw [HD.out]; exact hz2, by rw [HD.out]; exact hS4, by show _ = _; rw [← HO.out, HPG.out], Nat.le_refl _⟩
        · obtain rfl : x = b := by omega
          have HE : Hid (Sort.partialInsertionSort ltO d a x = (dk, true)) := by show _ = _; unfold Sort.partialInsertionSort; rw [← HO.out, pi_true ltO a x s i dk hs (by rw [← HSc.out, scanSorted_stop ltO dk x x (Or.inl (by omega))])]
          go_wp2
          go_ret
          rw [HE.out]
          exact ⟨rfl, hS⟩
    · obtain rfl : s = 5 := by omega
      have HE : Hid (Sort.partialInsertionSort ltO d a b = (dk, false)) := by show _ = _; unfold Sort.partialInsertionSort; rw [← HO.out]; rfl
      go_wp2
      go_ret
      rw [HE.out]
      exact ⟨rfl, hS⟩
end Go.Proofs.YtjahmnenfknjgaaGreatDoor
namespace Go.Proofs.YtjahmnenfknjgaaGreatDoor
open Go.RowKit Go.Sort

set_option maxHeartbeats 12800000 in
set_option maxRecDepth 1000000 in
theorem pdq_any {rv : Value} {blk n : Nat} (hR : Srt rv blk n) (hn255 : n ≤ 255) : ∀ (N a b limit : Nat) (d : PA) (w : World), b - a < N → PR w blk d → d.size = n → a ≤ b → b ≤ n → limit ≤ 255 → Below ltO a b d →
    Calls Tryz.prog 146 #[.iface 149 rv, .int .i64 a, .int .i64 b, .int .i64 limit] w fun e w' => e = .returned (.tuple #[]) ∧ SS blk w (pdq ltO d a b limit true true) w' := by
  have mL := hR.ml
  have hm := hR.hm
  have hO := swo_ltO
  have HR := Lib.hid hR
  clear hR
  intro N
  induction N with
  | zero => intro _ _ _ _ _ h; exact absurd h (Nat.not_lt_zero _)
  | succ N ih0 =>
    intro a b limit d w hN hp hdn hab hb hlimit hBel0
    have IH := Lib.hid ih0
    have HDN := Lib.hid hdn
    have HP := Lib.hid hp
    clear ih0 hp
    go_enter Tryz.func146, Tryz.ntmps146
    go_wp2
    go_loopg [1, 2, 3, 8, 9] (b - a) (fun k s1 s2 s3 s8 s9 wr => ∃ (a' b' lim : Nat) (wb wp : Bool) (dk : PA), s1 = .int .i64 a' ∧ s2 = .int .i64 b' ∧ s3 = .int .i64 lim ∧ s8 = .bool wb ∧ s9 = .bool wp ∧
      a' ≤ b' ∧ b' ≤ n ∧ b' - a' ≤ k ∧ k ≤ b - a ∧ lim ≤ limit ∧ dk.size = n ∧ Below ltO a' b' dk ∧ SS blk w dk wr ∧ pdq ltO dk a' b' lim wb wp = pdq ltO d a b limit true true)
    case atStart => exact ⟨a, b, limit, true, true, d, rfl, rfl, rfl, rfl, rfl, hab, hb, Nat.le_refl _, Nat.le_refl _, Nat.le_refl _, hdn, hBel0, SS.start HP.out, rfl⟩
    case round =>
      clear hBel0
      obtain ⟨a', b', lim, wb, wp, dk, rfl, rfl, rfl, rfl, rfl, hab', hb', hk, hkN, hlim, hds, hBel, hAt, heq⟩ := hrel
      have A := Lib.hid heq
      clear heq
      by_cases h12 : b' - a' ≤ 12
      · have h12z : (b' : Int) - (a' : Int) ≤ 12 := by omega
        have hc := insSort_any HR.out a' b' dk wr hAt.pr hds hab' hb'
        go_wp2_with (go_at_call 153; refine hc.mono ?_; rintro e w1 ⟨rfl, hw1⟩)
        refine bodyPost_ret (results_none rfl _ _ _) rfl ?_
        refine ⟨rfl, ?_⟩
        rw [← A.out, pdq_small h12]
        exact hAt.thn hw1
      · have h12z : ¬ ((b' : Int) - (a' : Int) ≤ 12) := by omega
        by_cases hl0 : lim = 0
        · subst hl0
          have hc := heap_any HR.out a' b' dk wr hAt.pr hds hab' hb'
          go_wp2_with (go_at_call 154; refine hc.mono ?_; rintro e w1 ⟨rfl, hw1⟩)
          refine bodyPost_ret (results_none rfl _ _ _) rfl ?_
          refine ⟨rfl, ?_⟩
          rw [← A.out, pdq_heap h12 rfl]
          exact hAt.thn hw1
        · have hl0z : ¬ ((lim : Int) = 0) := by omega
          obtain ⟨s1, B1, hc1, s2, B2, hpv, s3, B3⟩ := rd_facts (lt := ltO) (limit := lim) (wb := wb) (wp := wp) hO partialInsertionSort_holds reverseRange_holds (show a' < b' by omega) (show b' ≤ dk.size by omega) hBel
          go_upto_if 35 with fail
          go_cut [3] (fun s3 wc => s3 = .int .i64 (rd ltO dk a' b' lim wb wp).lim ∧ SS blk w (rd ltO dk a' b' lim wb wp).d1 wc)
          case first =>
            cases wb
            · have hc := breakP_any HR.out a' b' dk wr hAt.pr hds hab' hb' hn255
              go_wp2_with (go_at_call 155; refine hc.mono ?_; rintro e w1 ⟨rfl, hw1⟩)
              go_meet
              case rel =>
                refine ⟨?_, hAt.thn hw1⟩
                show Value.int .i64 ((lim : Int) - 1) = Value.int .i64 ((lim - 1 : Nat) : Int)
                congr 1
                omega
            · go_wp2_with fail
              go_meet
              case rel => exact ⟨rfl, hAt⟩
          case rest =>
            obtain ⟨rfl, hAt1⟩ := hcut
            have hc17 : Calls Tryz.prog 156 #[.iface 149 rv, .int .i64 a', .int .i64 b'] wc fun e w' => e = .returned (.tuple #[.int .i64 (rd ltO dk a' b' lim wb wp).c.1, .int .i64 (hintCode (rd ltO dk a' b' lim wb wp).c.2)]) ∧ Upd [] wc w' :=
              choose_any HR.out a' b' (rd ltO dk a' b' lim wb wp).d1 wc hAt1.pr (s1.trans hds) (by omega) hb'
            go_upto_if 50 with (go_at_call 156; refine hc17.mono ?_; rintro e w2 ⟨rfl, hw2⟩)
            have hAt2 := hAt1.upd0 hw2
            go_cut [11, 12] (fun s11 s12 wc => s11 = .int .i64 (rd ltO dk a' b' lim wb wp).pivot ∧ s12 = .int .i64 (hintCode (rd ltO dk a' b' lim wb wp).hint) ∧ SS blk w (rd ltO dk a' b' lim wb wp).d2 wc)
            case first =>
              by_cases hh : (rd ltO dk a' b' lim wb wp).c.2 = .decreasing
              · have hcode : hintCode (rd ltO dk a' b' lim wb wp).c.2 = 2 := by rw [hh]; rfl
                obtain ⟨e2, epv, eht⟩ := rd_dec hh
                have hc18 := revRange_any HR.out a' b' (rd ltO dk a' b' lim wb wp).d1 w2 hAt2.pr (s1.trans hds) hab' hb'
                go_wp2_with (go_at_call 157; refine hc18.mono ?_; rintro e w3 ⟨rfl, hw3⟩)
                go_meet
                case rel =>
                  refine ⟨?_, by rw [eht]; rfl, by rw [e2]; exact hAt2.thn hw3⟩
                  rw [epv]
                  congr 1
                  omega
              · have hcode : ¬ (hintCode (rd ltO dk a' b' lim wb wp).c.2 = 2) := fun h => hh (hintCode_two h)
                obtain ⟨e2, epv, eht⟩ := rd_not hh
                go_wp2_with fail
                go_meet
                case rel => exact ⟨by rw [epv], by rw [eht], by rw [e2]; exact hAt2⟩
            case rest =>
              obtain ⟨rfl, rfl, hAt3⟩ := hcut
              go_upto_region 15 with fail
              go_cut [12, 68] (fun s12 s68 wx => s12 = .int .i64 (hintCode (rd ltO dk a' b' lim wb wp).hint) ∧ s68 = .bool (wb && wp && decide ((rd ltO dk a' b' lim wb wp).hint = .increasing)) ∧ wx = wc)
              case first =>
                cases wb <;> cases wp <;> cases hh3 : (rd ltO dk a' b' lim _ _).hint <;>
                  (have hcode3 := congrArg hintCode hh3
                   simp only [hintCode] at hcode3
                   go_wp2_with fail
                   go_meet
                   exact ⟨by simp [hh3, hintCode], by simp [hh3, hintCode], rfl⟩)
              case rest =>
                obtain ⟨rfl, rfl, rfl⟩ := hcut
                go_upto_if 68 with fail
                go_cut [] (fun wx => (rd ltO dk a' b' lim wb wp).pi.2 = false ∧ SS blk w (rd ltO dk a' b' lim wb wp).pi.1 wx)
                case first =>
                  cases h68 : (wb && wp && decide ((rd ltO dk a' b' lim wb wp).hint = .increasing))
                  · have epi := rd_pi_no h68
                    go_wp2_with fail
                    go_meet
                    case rel => exact ⟨by rw [epi], by rw [epi]; exact hAt3⟩
                  · have epi := rd_pi_yes h68
                    have hc19 := partIns_any HR.out a' b' (rd ltO dk a' b' lim wb wp).d2 wc hAt3.pr (s2.trans hds) (by omega) hb'
                    rw [← epi] at hc19
                    go_wp2_with (go_at_call 158; refine hc19.mono ?_; rintro e w4 ⟨rfl, hw4⟩)
                    all_goals first
                      | (have hp2 : (rd ltO dk a' b' lim wb wp).pi.2 = false := by rw [epi]; assumption
                         go_meet
                         exact ⟨hp2, hAt3.thn hw4⟩)
                      | (have hp2 : (rd ltO dk a' b' lim wb wp).pi.2 = true := by rw [epi]; assumption
                         (try simp only [Exit.inBlock, Exit.then]); refine bodyPost_ret (results_none rfl _ _ _) rfl ?_
                         refine ⟨rfl, ?_⟩
                         rw [← A.out, pdq_done h12 hl0 hp2]
                         exact hAt3.thn hw4)
                case rest =>
                  obtain ⟨hp2, hAt5⟩ := hcut
                  go_upto_region 17 with fail
                  go_cut [82] (fun s82 wx => s82 = .bool (decide (a' > 0) && !ltO (rd ltO dk a' b' lim wb wp).pi.1[a' - 1]! (rd ltO dk a' b' lim wb wp).pi.1[(rd ltO dk a' b' lim wb wp).pivot]!) ∧ SS blk w (rd ltO dk a' b' lim wb wp).pi.1 wx)
                  case first =>
                    rcases Nat.eq_zero_or_pos a' with ha0 | ha0
                    · have ha0z : decide ((a' : Int) > 0) = false := decide_eq_false (by omega)
                      go_wp2_with fail
                      go_meet
                      case rel => exact ⟨by simp [ha0], hAt5⟩
                    · have ha0z : (a' : Int) > 0 := by omega
                      cases hlv : ltO (rd ltO dk a' b' lim wb wp).pi.1[a' - 1]! (rd ltO dk a' b' lim wb wp).pi.1[(rd ltO dk a' b' lim wb wp).pivot]! <;>
                        (have HV := Lib.hid hlv
                         go_wp2_with (go_at_call 185; refine (HR.out.lessV (a' - 1) (rd ltO dk a' b' lim wb wp).pivot hAt5.pr (s3.trans hds) (by omega) (by omega) HV.out (by omega) rfl).mono ?_; rintro e w' ⟨rfl, hu'⟩)
                         go_meet
                         exact ⟨by simp [ha0, hlv], hAt5.upd0 hu'⟩)
                  case rest =>
                    obtain ⟨rfl, hAt6⟩ := hcut
                    cases h87 : (decide (a' > 0) && !ltO (rd ltO dk a' b' lim wb wp).pi.1[a' - 1]! (rd ltO dk a' b' lim wb wp).pi.1[(rd ltO dk a' b' lim wb wp).pivot]!)
                    · obtain ⟨mid, ap, d4, hx⟩ : ∃ mid ap d4, partition ltO (rd ltO dk a' b' lim wb wp).pi.1 a' b' (rd ltO dk a' b' lim wb wp).pivot = (mid, ap, d4) := ⟨(partition ltO (rd ltO dk a' b' lim wb wp).pi.1 a' b' (rd ltO dk a' b' lim wb wp).pivot).1, (partition ltO (rd ltO dk a' b' lim wb wp).pi.1 a' b' (rd ltO dk a' b' lim wb wp).pivot).2.1, (partition ltO (rd ltO dk a' b' lim wb wp).pi.1 a' b' (rd ltO dk a' b' lim wb wp).pivot).2.2, rfl⟩
                      obtain ⟨r1, r2, r3, r4, r5, r6, r7⟩ := round_part hO (partition_holds ltO) hpv.1 hpv.2 (show b' ≤ (rd ltO dk a' b' lim wb wp).pi.1.size by omega) B3 hx
                      have hc22 := part_any HR.out a' b' (rd ltO dk a' b' lim wb wp).pivot (rd ltO dk a' b' lim wb wp).pi.1 wc hAt6.pr (s3.trans hds) hpv.1 hpv.2 hb'
                      rw [hx] at hc22
                      have X := Lib.hid hx
                      clear hx
                      go_upto_if 108 with (go_at_call 160; refine hc22.mono ?_; rintro e w7 ⟨rfl, hw7⟩)
                      have hx := X.out
                      have hs4 : d4.size = n := r3.trans (s3.trans hds)
                      have hAt7 := hAt6.thn hw7
                      by_cases h4 : mid - a' < b' - mid
                      · have h4z : (mid : Int) - (a' : Int) < (b' : Int) - (mid : Int) := by omega
                        have hih := IH.out a' mid (rd ltO dk a' b' lim wb wp).lim d4 w7 (by omega) hAt7.pr hs4 (by omega) (by omega) (Nat.le_trans (Nat.le_trans rd_lim_le hlim) hlimit) r4
                        obtain ⟨pL, sL⟩ := pdq_sorts ltO hO d4 a' mid (rd ltO dk a' b' lim wb wp).lim true true (by omega) (by omega) r4
                        go_wp2_with (go_at_call 146; refine hih.mono ?_; rintro e w8 ⟨rfl, hw8⟩)
                        go_roundg (b' - (mid + 1))
                        case measure => omega
                        case rel =>
                          refine ⟨mid + 1, b', (rd ltO dk a' b' lim wb wp).lim, decide (mid - a' ≥ (b' - a') / 8), ap, pdq ltO d4 a' mid (rd ltO dk a' b' lim wb wp).lim true true, by simp, rfl, rfl, ?_, rfl, by omega, by omega, Nat.le_refl _, by omega, Nat.le_trans rd_lim_le hlim, by rw [pL.1, hs4], (r6 _ pL sL).1, hAt7.thn hw8, ?_⟩
                          · exact congrArg Value.bool (eighth (by omega) (by omega))
                          · rw [← A.out, pdq_left h12 hl0 hp2 h87 (by rw [hx]; exact ⟨r1, r2⟩) (by rw [hx]; exact h4), hx]
                      · have h4z : ¬ ((mid : Int) - (a' : Int) < (b' : Int) - (mid : Int)) := by omega
                        have hih := IH.out (mid + 1) b' (rd ltO dk a' b' lim wb wp).lim d4 w7 (by omega) hAt7.pr hs4 (by omega) (by omega) (Nat.le_trans (Nat.le_trans rd_lim_le hlim) hlimit) r5
                        rw [show ((mid + 1 : Nat) : Int) = (mid : Int) + 1 by omega] at hih
                        obtain ⟨pL, sL⟩ := pdq_sorts ltO hO d4 (mid + 1) b' (rd ltO dk a' b' lim wb wp).lim true true (by omega) (by omega) r5
                        go_wp2_with (go_at_call 146; refine hih.mono ?_; rintro e w8 ⟨rfl, hw8⟩)
                        go_roundg (mid - a')
                        case measure => omega
                        case rel =>
                          refine ⟨a', mid, (rd ltO dk a' b' lim wb wp).lim, decide (b' - mid ≥ (b' - a') / 8), ap, pdq ltO d4 (mid + 1) b' (rd ltO dk a' b' lim wb wp).lim true true, rfl, rfl, rfl, ?_, rfl, by omega, by omega, Nat.le_refl _, by omega, Nat.le_trans rd_lim_le hlim, by rw [pL.1, hs4], (r7 _ pL sL).1, hAt7.thn hw8, ?_⟩
                          · exact congrArg Value.bool (eighth (by omega) (by omega))
                          · rw [← A.out, pdq_right h12 hl0 hp2 h87 (by rw [hx]; exact ⟨r1, r2⟩) (by rw [hx]; exact h4), hx]
                    · have h87' := h87
                      simp only [Bool.and_eq_true, decide_eq_true_eq, Bool.not_eq_true'] at h87'
                      obtain ⟨mid, d4, hx⟩ : ∃ mid d4, partitionEqual ltO (rd ltO dk a' b' lim wb wp).pi.1 a' b' (rd ltO dk a' b' lim wb wp).pivot = (mid, d4) := ⟨(partitionEqual ltO (rd ltO dk a' b' lim wb wp).pi.1 a' b' (rd ltO dk a' b' lim wb wp).pivot).1, (partitionEqual ltO (rd ltO dk a' b' lim wb wp).pi.1 a' b' (rd ltO dk a' b' lim wb wp).pivot).2, rfl⟩
                      obtain ⟨r1, r2, r3, r4, _⟩ := round_eq hO (partitionEqual_holds ltO) h87'.1 hpv.1 hpv.2 (show b' ≤ (rd ltO dk a' b' lim wb wp).pi.1.size by omega) B3 h87'.2 hx
                      have hc21 := partEq_any HR.out a' b' (rd ltO dk a' b' lim wb wp).pivot (rd ltO dk a' b' lim wb wp).pi.1 wc hAt6.pr (s3.trans hds) hpv.1 hpv.2 hb'
                      rw [hx] at hc21
                      have X := Lib.hid hx
                      clear hx
                      go_wp2_with (go_at_call 159; refine hc21.mono ?_; rintro e w7 ⟨rfl, hw7⟩)
                      go_roundg (b' - mid)
                      case measure => omega
                      case rel =>
                        have hx := X.out
                        exact ⟨mid, b', (rd ltO dk a' b' lim wb wp).lim, wb, wp, d4, rfl, rfl, rfl, rfl, rfl, r2, hb', Nat.le_refl _, by omega, Nat.le_trans rd_lim_le hlim, by rw [r3, s3, hds], r4, hAt6.thn hw7, by rw [← A.out, pdq_eq h12 hl0 hp2 h87 (by rw [hx]; exact ⟨r1, r2⟩), hx]⟩

set_option maxHeartbeats 4000000 in
set_option maxRecDepth 100000 in
/-- sort.Sort of pairs: a permutation of them, ordered by their opening brackets. -/
theorem sort_any (blk n c : Nat) (d : PA) (w : World) (h : PR w blk d) (hn : d.size = n) (hn255 : n ≤ 255) :
    Calls Tryz.prog 139 #[.iface 149 (brv blk n c)] w fun e w' => e = .returned (.tuple #[]) ∧ ∃ d', PermIn 0 n d d' ∧ SortedIn ltO 0 n d' ∧ SS blk w d' w' := by
  have hS := Srt.of blk n c (by omega)
  have mN := find_len blk n c
  have hLen := pLen_any blk n c
  have hbl : bitsLen n ≤ 8 := (bitsLen_le_iff n 8).2 (by omega)
  have wr : IntKind.u64.wrap (n : Int) = n := by simp [IntKind.wrap, IntKind.bits, IntKind.signed]; omega
  have HP : Hid (PermIn 0 n d (pdq ltO d 0 n (bitsLen n) true true) ∧ SortedIn ltO 0 n (pdq ltO d 0 n (bitsLen n) true true)) := pdq_sorts ltO swo_ltO d 0 n (bitsLen n) true true (by omega) (by omega) (Or.inl rfl)
  have hpdq := pdq_any hS hn255 (n + 1) 0 n (bitsLen n) d w (by omega) h hn (by omega) (Nat.le_refl _) (by omega) (Or.inl rfl)
  have H0 := Lib.hid h
  have HN := Lib.hid hn
  clear h hS hn
  generalize brv blk n c = rv at mN hLen hpdq ⊢
  by_cases h1 : n ≤ 1
  · have h1z : (n : Int) ≤ 1 := by omega
    have HT : Hid (PermIn 0 n d d ∧ SortedIn ltO 0 n d) := ⟨⟨rfl, fun _ _ => rfl, List.Perm.refl _⟩, fun i j _ h2 h3 => by omega⟩
    clear hpdq HP
    go_enter Tryz.func139, Tryz.ntmps139
    go_wp2_with (go_at_call 184; refine (hLen _).mono ?_; rintro e w' ⟨rfl, rfl⟩)
    refine bodyPost_ret (results_none rfl _ _ _) rfl ?_
    exact ⟨rfl, d, HT.out.1, HT.out.2, SS.start H0.out⟩
  · have h1z : ¬ (n : Int) ≤ 1 := by omega
    go_enter Tryz.func139, Tryz.ntmps139
    go_wp2_with (first
      | (go_at_call 184; refine (hLen _).mono ?_; rintro e w' ⟨rfl, rfl⟩)
      | (go_at_call 145; refine (bitsLen_any n hn255 _).mono ?_; rintro e w' ⟨rfl, rfl⟩)
      | (go_at_call 146; refine hpdq.mono ?_; rintro e w' ⟨rfl, hS⟩))
    go_end0
    exact ⟨rfl, _, HP.out.1, HP.out.2, hS⟩
end Go.Proofs.YtjahmnenfknjgaaGreatDoor
