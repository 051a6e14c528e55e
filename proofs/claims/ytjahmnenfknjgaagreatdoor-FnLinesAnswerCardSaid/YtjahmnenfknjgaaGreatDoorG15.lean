/- The package's isolatingRunSequence, by its contract. -/
import Derived.Test.YtjahmnenfknjgaaGreatDoorG14
import Derived.Test.YtjahmnenfknjgaaGreatDoorG11
import Derived.Deep.DeepCutAuto
import Derived.Deep.CutBlock
import Derived.BigQuiet
import Derived.Deep.QuietTactic
import Derived.Test.YtjahmnenfknjgaaGreatDoorG6
import Derived.Deep.RegionHeld3
set_option linter.unusedVariables false
set_option linter.unusedSimpArgs false
namespace Go.Proofs.YtjahmnenfknjgaaGreatDoor
open Go.RowKit

/-- The level behind a sequence, as the package takes it. -/
def elevP (cs : List Cl) (V : List Int) (T : List Cl) (base : Int) (pl : List Nat) : Int :=
  if (cat T (lastOf pl)).isInit then base else aftLv (klv cs V) base (lastOf pl + 1)
def chnP (cs : List Cl) (V : List Int) (T : List Cl) (base : Int) (pl : List Nat) : Chn :=
  ⟨pl, nth V (nat pl 0), dirOf (max (befLv (klv cs V) base (nat pl 0)) (nth V (nat pl 0))), dirOf (max (elevP cs V T base pl) (nth V (nat pl 0)))⟩
theorem takeC_succ {T : List Cl} {pl : List Nat} {j n : Nat} (h : j < pl.length) (hn : pl.length = n) : (((pl.take j).map (cat T)) ++ (List.replicate n Cl.L).drop j).set j (cat T (nat pl j)) = ((pl.take (j + 1)).map (cat T)) ++ (List.replicate n Cl.L).drop (j + 1) := by
  subst hn
  rw [List.set_append_right _ _ (by simp; omega), show j - ((pl.take j).map (cat T)).length = 0 by simp; omega, List.drop_eq_getElem_cons (by simp; omega), List.set_cons_zero]
  rw [take_snoc_map _ _ _ h, nat_eq h]; simp

theorem befLv_range {kl : List Int} {base : Int} (hb : 0 ≤ base ∧ base ≤ 125) (h : ∀ q, nth kl q ≠ -1 → 0 ≤ nth kl q ∧ nth kl q ≤ 125) : ∀ p, 0 ≤ befLv kl base p ∧ befLv kl base p ≤ 125
  | 0 => hb
  | p + 1 => by
    rw [befLv]; split
    · exact befLv_range hb h p
    · rename_i e; exact h p e
theorem aftLv_range {kl : List Int} {base : Int} (hb : 0 ≤ base ∧ base ≤ 125) (h : ∀ q, nth kl q ≠ -1 → 0 ≤ nth kl q ∧ nth kl q ≤ 125) : ∀ t p, kl.length ≤ p + t → 0 ≤ aftLv kl base p ∧ aftLv kl base p ≤ 125
  | 0, p, hp => by rw [aftLv_end (by omega)]; exact hb
  | t + 1, p, hp => by
    by_cases h1 : p < kl.length
    · by_cases h2 : nth kl p = -1
      · rw [aftLv_no h1 h2]; exact aftLv_range hb h t (p + 1) (by omega)
      · rw [aftLv_yes h1 h2]; exact h p h2
    · rw [aftLv_end (by omega)]; exact hb
theorem klv_range {cs : List Cl} {V : List Int} (hpos : ∀ q, q < cs.length → (cat cs q).isRem = false → 0 ≤ nth V q ∧ nth V q ≤ 125) : ∀ q, nth (klv cs V) q ≠ -1 → 0 ≤ nth (klv cs V) q ∧ nth (klv cs V) q ≤ 125 := fun q h => by
  by_cases hq : q < cs.length
  · rw [nth_klv hq] at h ⊢
    cases hr : (cat cs q).isRem with
    | true => rw [hr] at h; exact absurd rfl h
    | false => exact hpos q hq hr
  · have : nth (klv cs V) q = 0 := by simp [nth, klv, List.getElem?_eq_none (show cs.length ≤ q by omega), hq]
    rw [this]; omega
theorem made_cls (n : Nat) : (madeCells #[Value.int .u64 0] n).toList = clsU (List.replicate n .L) := by
  rw [toList_madeCells_one]; simp [clsU]; exact .inr rfl

set_option maxHeartbeats 16000000 in
set_option maxRecDepth 100000 in
theorem sequence_any (b g0 k0 gT kT gL kL gi ic n : Nat) (pt pv mm ss : Value) (base : Int) (cs T : List Cl) (V : List Int) (pl : List Nat) (w : World)
    (hp : Par w b (.slice (some ⟨g0, 0, none⟩) cs.length k0) pt pv base (.slice (some ⟨gT, 0, none⟩) cs.length kT) (.slice (some ⟨gL, 0, none⟩) cs.length kL) mm ss)
    (hc0 : Row w g0 77 (clsU cs)) (hT : Row w gT 77 (clsU T)) (hV : Row w gL 112 (nums .i8 V)) (hi : Row w gi 3 (nums .i64 (nats pl)))
    (hTl : T.length = cs.length) (hVl : V.length = cs.length) (hpos : ∀ q, q < cs.length → (cat cs q).isRem = false → 0 ≤ nth V q ∧ nth V q ≤ 125) (hbase : base = 0 ∨ base = 1) (hn : pl.length = n) (hn0 : 0 < n) (hpl : ∀ x, x ∈ pl → x < cs.length ∧ (cat cs x).isRem = false) (hm : cs.length ≤ 2147483647) (hnm : n ≤ 2147483647) :
    Calls Tryz.prog 107 #[.pointer (some ⟨b, 0, none⟩), .slice (some ⟨gi, 0, none⟩) n ic] w fun e w' => ∃ q gt, e = .returned (.pointer (some ⟨q, 0, none⟩)) ∧ w.heap.size ≤ q ∧ w.heap.size ≤ gt ∧
      Sq w' q (.pointer (some ⟨b, 0, none⟩)) (.slice (some ⟨gi, 0, none⟩) n ic) (.slice (some ⟨gt, 0, none⟩) n n) (.slice none 0 0) (chnP cs V T base pl).lev (chnP cs V T base pl).so (chnP cs V T base pl).eo ∧ Row w' gt 77 (clsU (pl.map (cat T))) ∧ Upd [] w w' := by
  obtain ⟨i0, hi', hz0, hz1, hz2⟩ := info_parts info77
  go_enter Tryz.func107, Tryz.ntmps107
  go_wp2_with (at_make; refine wpList_make_full _ rfl _ _ 58 rfl w.heap.size 77 i0 (.int .u64 0) 1 Tryz.underlying58 hi' hz0 hz1 _ _ _ _ n rfl rfl rfl rfl ?b1 ?b2 ?b3 ?_)
  case b1 => rw [hz2]; omega
  case b2 => unfold maxLen; omega
  case b3 => exact Nat.le_refl _
  intro w1 hown1 hgrow1
  rw [made_cls] at hown1
  have hO1 := Row.of_owns hown1
  have hu1 : Upd [] w w1 := (Upd.refl _ _).grown0 hgrow1
  clear hown1 hgrow1
  have HN := Lib.hid hn
  have HP := Lib.hid hpos
  have HPL := Lib.hid hpl
  have HTL := Lib.hid hTl
  have HVL := Lib.hid hVl
  have HB := Lib.hid hbase
  have hlt1 := hO1.lt
  obtain ⟨x0, hx0⟩ : ∃ x0, x0 = nat pl 0 := ⟨_, rfl⟩
  obtain ⟨xl, hxl⟩ : ∃ xl, xl = lastOf pl := ⟨_, rfl⟩
  have HX0 := Lib.hid hx0
  have HXL := Lib.hid hxl
  have h0l : x0 < cs.length ∧ (cat cs x0).isRem = false := by rw [hx0]; exact hpl _ (nat_mem (by omega))
  have hll : xl < cs.length ∧ (cat cs xl).isRem = false := by rw [hxl]; exact hpl _ (nat_mem (by omega))
  have h0v := hpos x0 h0l.1 h0l.2
  have HTK : Hid (∀ j, j < n → nat pl j < cs.length) := fun j hj => (hpl _ (nat_mem (by omega))).1
  clear hn hpos hpl hTl hVl hbase hx0 hxl
  go_wp2
  go_loopg [21] (n + 1) (fun k i wr => ∃ (j : Nat), i = .int .i64 j ∧ j ≤ n ∧ Row wr w.heap.size 77 (clsU (((pl.take j).map (cat T)) ++ (List.replicate n Cl.L).drop j)) ∧ Upd [] w wr ∧ Hid (n + 1 - j ≤ k))
  case atStart => exact ⟨0, rfl, by omega, by simpa using hO1, hu1, Nat.le_refl _⟩
  case round =>
    obtain ⟨j, rfl, hj, hO, hu, hk⟩ := hrel
    have hPr := Par.upd hp hu (by simp)
    have hir := hi.upd hu (by simp)
    have hTr := hT.upd hu (by simp)
    by_cases hlt : j < n
    · have c4 := hPr.cells.c4
      have hic := hir.num j (by rw [nats_length, HN.out]; exact hlt)
      rw [nth_nats (by rw [HN.out]; exact hlt)] at hic
      have hx := HTK.out j hlt
      have hTc := hTr.cls (nat pl j) (by rw [HTL.out]; exact hx)
      have hOc := hO.cls j (by simp [HN.out]; omega)
      have hOf := hO.free j
      have HS := Lib.hid (takeC_succ (T := T) (pl := pl) (j := j) (n := n) (by rw [HN.out]; exact hlt) HN.out)
      obtain ⟨x, hxx⟩ : ∃ x, x = nat pl j := ⟨_, rfl⟩
      rw [← hxx] at hic hx hTc HS
      clear hxx
      go_wp2
      go_roundg (n + 1 - (j + 1))
      case measure => have := hk.out; omega
      case rel => exact ⟨j + 1, by go_num, by omega, by rw [← HS.out]; exact hO.setCls j (cat T x) (by simp [HN.out]; omega), hu.setCell (p := ⟨w.heap.size, j, none⟩) (.inr (Nat.le_refl _)) _, Nat.le_refl _⟩
    · have HO : Hid (Row wr w.heap.size 77 (clsU (pl.map (cat T)))) := by
        show Row _ _ _ _
        obtain rfl : j = n := by omega
        rw [← HN.out] at hO
        simpa using hO
      have hi0 := hir.num 0 (by rw [nats_length, HN.out]; exact hn0)
      rw [nth_nats (by rw [HN.out]; exact hn0), ← HX0.out] at hi0
      have HU := Lib.hid hu
      clear hO hTr
      go_upto_block 2 with fail
      go_cut [9] (fun v wx => wr = wx ∧ ∃ p : Nat, v = .int .i64 ((p : Int) - 1) ∧ p ≤ cs.length ∧ Hid ((p = 0 ∧ befLv (klv cs V) base x0 = base) ∨ (0 < p ∧ (cat cs (p - 1)).isRem = false ∧ befLv (klv cs V) base x0 = nth V (p - 1))))
      case first =>
        go_wp2
        go_loopg [9] (x0 + 1) (fun k i wx => ∃ (p : Nat), i = .int .i64 ((p : Int) - 1) ∧ p ≤ x0 ∧ wx = wr ∧ Hid (befLv (klv cs V) base x0 = befLv (klv cs V) base p) ∧ Hid (p + 1 ≤ k))
        case atStart => exact ⟨x0, rfl, Nat.le_refl _, rfl, rfl, Nat.le_refl _⟩
        case round =>
          obtain ⟨p, rfl, hp0, rfl, HE, hk2⟩ := hrel
          have c0 := hPr.cells.c0
          by_cases hpz : p = 0
          · subst hpz
            go_wp2
            go_meet
            case rel => exact ⟨rfl, 0, rfl, by omega, .inl ⟨rfl, HE.out⟩⟩
          · obtain ⟨p, rfl⟩ : ∃ p', p = p' + 1 := ⟨p - 1, by omega⟩
            have hpp : ((p + 1 : Nat) : Int) - 1 = p := by omega
            have hcc := (hc0.upd hu (by simp)).cls p (by omega)
            simp only [hpp]
            have hkl := nth_klv (cs := cs) (V := V) (q := p) (by omega)
            cases hrm : (cat cs p).isRem with
            | true =>
              rw [hrm, if_pos rfl] at hkl
              have HE2 : Hid (befLv (klv cs V) base x0 = befLv (klv cs V) base p) := by
                show _ = _
                rw [HE.out, befLv, if_pos hkl]
              clear hkl
              go_wp2_with (go_at_call 131; refine (removed_any (cat cs p) _).mono ?_; rintro e w' ⟨rfl, rfl⟩)
              go_roundg (p + 1)
              case measure => have := hk2.out; omega
              case rel => exact ⟨p, by go_num, by omega, rfl, HE2, Nat.le_refl _⟩
            | false =>
              rw [hrm, if_neg (by simp)] at hkl
              have hv := HP.out p (by omega) hrm
              have HE2 : Hid (befLv (klv cs V) base x0 = nth V p) := by
                show _ = _
                rw [HE.out, befLv, if_neg (by rw [hkl]; omega), hkl]
              have HRM := Lib.hid hrm
              clear hkl
              go_wp2_with (go_at_call 131; refine (removed_any (cat cs p) _).mono ?_; rintro e w' ⟨rfl, rfl⟩)
              go_meet
              case rel => exact ⟨rfl, p + 1, by go_num, by omega, .inr ⟨by omega, HRM.out, HE2.out⟩⟩
      case rest =>
        obtain ⟨rfl, p, rfl, hp1, HBV⟩ := hcut
        have c3 := hPr.cells.c3
        have c5 := hPr.cells.c5
        go_upto_if 60 with fail
        go_cut [9, 10] (fun _ v wx => v = .int .i8 (befLv (klv cs V) base x0) ∧ wr = wx)
        case first =>
          by_cases hpz : p = 0
          · subst hpz
            have HE : Hid (befLv (klv cs V) base x0 = base) := by
              rcases HBV.out with h | h
              · exact h.2
              · exact absurd h.1 (by omega)
            go_wp2
            go_meet
            case rel => exact ⟨by rw [HE.out], rfl⟩
          · obtain ⟨p, rfl⟩ : ∃ p', p = p' + 1 := ⟨p - 1, by omega⟩
            have hpp : ((p + 1 : Nat) : Int) - 1 = p := by omega
            have HE : Hid (befLv (klv cs V) base x0 = nth V p) := by
              rcases HBV.out with h | h
              · exact absurd h.1 (by omega)
              · exact h.2.2
            have hvc := (hV.upd hu (by simp)).num p (by rw [HVL.out]; omega)
            simp only [hpp]
            go_wp2
            go_meet
            case rel => exact ⟨by rw [HE.out], rfl⟩
        case rest =>
          obtain ⟨rfl, rfl⟩ := hcut
          have c3 := hPr.cells.c3
          have c5 := hPr.cells.c5
          have hir := hi.upd hu (by simp)
          have hOc := HO.out.cls (n - 1) (by simp [HN.out]; omega)
          have hLst : cat (pl.map (cat T)) (n - 1) = cat T xl := by
            rw [HXL.out, lastOf, HN.out]
            have h1 : n - 1 < pl.length := by rw [HN.out]; omega
            simp [cat, nat, h1]
          rw [hLst] at hOc
          obtain ⟨m, hmn⟩ : ∃ m, n = m + 1 := ⟨n - 1, by omega⟩
          have hnm1 : (n : Int) - 1 = m := by omega
          have hnm2 : n - 1 = m := by omega
          rw [hnm2] at hOc
          have hmn2 : m < n := by omega
          have hil := hir.num m (by rw [nats_length, HN.out]; exact hmn2)
          rw [nth_nats (by rw [HN.out]; exact hmn2)] at hil
          rw [show nat pl m = xl by rw [HXL.out, lastOf, HN.out, hnm2]] at hil
          have HEL : Hid (elevP cs V T base pl = if (cat T xl).isInit then base else aftLv (klv cs V) base (xl + 1)) := by show _ = _; rw [HXL.out]; rfl
          obtain ⟨se, hse⟩ : ∃ se, se = elevP cs V T base pl := ⟨_, rfl⟩
          have HSE := Lib.hid hse
          clear hse hLst hmn hnm2
          have B1 : Hid ([Cl.LRI, .RLI, .FSI].contains (cat T xl) = (cat T xl).isInit) := init_in _
          go_upto_if 75 with (go_at_call 106; refine (in_upd (c := cat T xl) (l := [.LRI, .RLI, .FSI]) (cat T xl).isInit (by simp) (by rfl) rfl B1.out (by decide) _).mono ?_; rintro e w2 ⟨rfl, hu2⟩; have hu3 := hu.then hu2; have hP3 := Par.upd hp hu3 (by simp); have e3 := hP3.cells.c3; have e5 := hP3.cells.c5; have e0 := hP3.cells.c0; have hi3 := (hi.upd hu3 (by simp)).num m (by rw [nats_length, HN.out]; exact hmn2); rw [nth_nats (by rw [HN.out]; exact hmn2), show nat pl m = xl by rw [HXL.out, lastOf, HN.out]; congr 1; omega] at hi3)
          have HO3 := Lib.hid (HO.out.upd hu2 (by simp))
          go_cut [11, 13] (fun v _ wx => v = .int .i8 se ∧ w2 = wx)
          case first =>
            cases hini : (cat T xl).isInit with
            | true =>
              have HV1 : Hid (se = base) := by show _ = _; rw [HSE.out, HEL.out, if_pos hini]
              clear hini
              go_wp2
              go_meet
              case rel => exact ⟨by rw [HV1.out], rfl⟩
            | false =>
              have HV1 : Hid (se = aftLv (klv cs V) base (xl + 1)) := by show _ = _; rw [HSE.out, HEL.out, if_neg (by rw [hini]; simp)]
              clear hini
              go_upto_block 4 with fail
              go_cut [13] (fun v wx => w2 = wx ∧ ∃ p : Nat, v = .int .i64 p ∧ p ≤ cs.length ∧ Hid ((p = cs.length ∧ se = base) ∨ (p < cs.length ∧ se = nth V p)))
              case first =>
                go_wp2
                go_loopg [13] (cs.length + 1) (fun k i wx => ∃ (p : Nat), i = .int .i64 p ∧ p ≤ cs.length ∧ wx = w2 ∧ Hid (se = aftLv (klv cs V) base p) ∧ Hid (cs.length + 1 - p ≤ k))
                case atStart => exact ⟨xl + 1, by go_num, by omega, rfl, HV1, by show _ ≤ _; omega⟩
                case round =>
                  obtain ⟨p, rfl, hp0, rfl, HE, hk2⟩ := hrel
                  by_cases hpz : p < cs.length
                  · have hcc := (hc0.upd hu3 (by simp)).cls p hpz
                    have hkl := nth_klv (cs := cs) (V := V) (q := p) hpz
                    cases hrm : (cat cs p).isRem with
                    | true =>
                      rw [hrm, if_pos rfl] at hkl
                      have HE2 : Hid (se = aftLv (klv cs V) base (p + 1)) := by
                        show _ = _
                        rw [HE.out, aftLv_no (by rw [klv_length]; exact hpz) hkl]
                      clear hkl
                      go_wp2_with (first | (go_at_call 102; refine (len_any b cs.length _ _ _ (by assumption)).mono ?_; rintro e w' ⟨rfl, rfl⟩) | (go_at_call 131; refine (removed_any (cat cs p) _).mono ?_; rintro e w' ⟨rfl, rfl⟩))
                      go_roundg (cs.length + 1 - (p + 1))
                      case measure => have := hk2.out; omega
                      case rel => exact ⟨p + 1, by go_num, by omega, rfl, HE2, Nat.le_refl _⟩
                    | false =>
                      rw [hrm, if_neg (by simp)] at hkl
                      have hv := HP.out p hpz hrm
                      have HE2 : Hid (se = nth V p) := by
                        show _ = _
                        rw [HE.out, aftLv_yes (by rw [klv_length]; exact hpz) (by rw [hkl]; omega), hkl]
                      clear hkl
                      go_wp2_with (first | (go_at_call 102; refine (len_any b cs.length _ _ _ (by assumption)).mono ?_; rintro e w' ⟨rfl, rfl⟩) | (go_at_call 131; refine (removed_any (cat cs p) _).mono ?_; rintro e w' ⟨rfl, rfl⟩))
                      go_meet
                      case rel => exact ⟨rfl, p, rfl, by omega, .inr ⟨hpz, HE2.out⟩⟩
                  · have HE2 : Hid (se = base) := by
                      show _ = _
                      rw [HE.out, aftLv_end (by rw [klv_length]; omega)]
                    go_wp2_with (first | (go_at_call 102; refine (len_any b cs.length _ _ _ (by assumption)).mono ?_; rintro e w' ⟨rfl, rfl⟩))
                    go_meet
                    case rel => exact ⟨rfl, p, rfl, by omega, .inl ⟨by omega, HE2.out⟩⟩
              case rest =>
                obtain ⟨rfl, p, rfl, hp1, HBV⟩ := hcut
                by_cases hpz : p < cs.length
                · have HE : Hid (se = nth V p) := by
                    rcases HBV.out with h | h
                    · omega
                    · exact h.2
                  have hvc := (hV.upd hu3 (by simp)).num p (by rw [HVL.out]; exact hpz)
                  go_wp2_with (first | (go_at_call 102; refine (len_any b cs.length _ _ _ (by assumption)).mono ?_; rintro e w' ⟨rfl, rfl⟩))
                  go_meet
                  case rel => exact ⟨by rw [HE.out], rfl⟩
                · have HE : Hid (se = base) := by
                    rcases HBV.out with h | h
                    · exact h.2
                    · omega
                  go_wp2_with (first | (go_at_call 102; refine (len_any b cs.length _ _ _ (by assumption)).mono ?_; rintro e w' ⟨rfl, rfl⟩))
                  go_meet
                  case rel => exact ⟨by rw [HE.out], rfl⟩
          case rest =>
            obtain ⟨rfl, rfl⟩ := hcut
            have hb2 : 0 ≤ base ∧ base ≤ 125 := by rcases HB.out with h | h <;> omega
            have hbf := befLv_range (kl := klv cs V) hb2 (klv_range HP.out) x0
            have hsf : 0 ≤ se ∧ se ≤ 125 := by
              rw [HSE.out, HEL.out]; split
              · exact hb2
              · exact aftLv_range hb2 (klv_range HP.out) _ _ (Nat.le_add_left _ _)
            obtain ⟨bf, hbfe⟩ : ∃ bf, bf = befLv (klv cs V) base x0 := ⟨_, rfl⟩
            rw [← hbfe] at hbf
            rw [← hbfe]
            have hv0 := (hV.upd hu3 (by simp)).num x0 (by rw [HVL.out]; exact h0l.1)
            have hi0' := (hi.upd hu3 (by simp)).num 0 (by rw [nats_length, HN.out]; exact hn0)
            rw [nth_nats (by rw [HN.out]; exact hn0), ← HX0.out] at hi0'
            have HCh : Hid ((chnP cs V T base pl).lev = nth V x0 ∧ (chnP cs V T base pl).so = dirOf (max bf (nth V x0)) ∧ (chnP cs V T base pl).eo = dirOf (max se (nth V x0))) := ⟨by rw [chnP, HX0.out], by rw [chnP, hbfe, HX0.out], by rw [chnP, HSE.out, HX0.out]⟩
            obtain ⟨lv, hlve⟩ : ∃ lv, lv = nth V x0 := ⟨_, rfl⟩
            rw [← hlve] at hv0 h0v HCh
            have HO4 := Lib.hid HO3.out
            clear hlve hbfe
            go_wp2
            go_quiet (fail)
            go_wp2_with (go_at_call 116; refine (typeFor_any _ (by omega) (by omega) _).mono ?_; rintro z w' ⟨rfl, rfl⟩)
            all_goals
              go_ret
              refine ⟨w2.heap.size, rfl, hu3.size, w.heap.size, Nat.le_refl _, ?_, (HO4.out.drewN nq).alloc _, ((hu3.drewN nq).alloc _)⟩
              rw [HCh.out.1, HCh.out.2.1, HCh.out.2.2]
              first | rw [show max bf lv = lv by omega] | rw [show max bf lv = bf by omega]
              first | rw [show max se lv = lv by omega] | rw [show max se lv = se by omega]
              exact Row.new (w2.drewN nq) 122 _
end Go.Proofs.YtjahmnenfknjgaaGreatDoor
namespace Go.Proofs.YtjahmnenfknjgaaGreatDoor
open Go.RowKit

theorem info120 : (Tryz.prog.info? 120).map (fun i => (i.zero, i.size, i.bytes)) = some (some (.pointer none), 1, 8) := by kernel_rfl
structure RB where
  b : Nat
  g0 : Nat
  k0 : Nat
  gT : Nat
  kT : Nat
  gL : Nat
  kL : Nat
  gm : Nat
  gs : Nat
  gR : Nat
  gr : Nat
  B : Nat
  n : Nat
  pt : Value
  pv : Value
  base : Int
structure RF (D : RB) (cs T : List Cl) (V : List Int) (L : List Rn) (rf : List Int) (w : World) : Prop where
  par : Par w D.b (.slice (some ⟨D.g0, 0, none⟩) D.n D.k0) D.pt D.pv D.base (.slice (some ⟨D.gT, 0, none⟩) D.n D.kT) (.slice (some ⟨D.gL, 0, none⟩) D.n D.kL) (.slice (some ⟨D.gm, 0, none⟩) D.n D.n) (.slice (some ⟨D.gs, 0, none⟩) D.n D.n)
  r0 : Row w D.g0 77 (clsU cs)
  rT : Row w D.gT 77 (clsU T)
  rL : Row w D.gL 112 (nums .i8 V)
  rm : Row w D.gm 3 (nums .i64 (mt cs))
  rs : Row w D.gs 3 (nums .i64 (msI cs))
  rR : Row w D.gR 22 (L.map Rn.hd)
  ri : RunsIn w D.B L
  rf : Row w D.gr 3 (nums .i64 rf)
theorem RF.upd0 {D : RB} {cs T : List Cl} {V : List Int} {L : List Rn} {rf : List Int} {w w' : World} (h : RF D cs T V L rf w) (hu : Upd [] w w') : RF D cs T V L rf w' :=
  ⟨Par.upd h.par hu (by simp), h.r0.upd hu (by simp), h.rT.upd hu (by simp), h.rL.upd hu (by simp), h.rm.upd hu (by simp), h.rs.upd hu (by simp), h.rR.upd hu (by simp), h.ri.keep hu, h.rf.upd hu (by simp)⟩

/-- A sequence made: its blocks and its places. -/
structure CR where
  q : Nat
  gt : Nat
  gi : Nat
  ic : Nat
  pl : List Nat
def CR.Ok (r : CR) (w : World) (B b : Nat) (cs T : List Cl) (V : List Int) (base : Int) : Prop :=
  Sq w r.q (.pointer (some ⟨b, 0, none⟩)) (.slice (some ⟨r.gi, 0, none⟩) r.pl.length r.ic) (.slice (some ⟨r.gt, 0, none⟩) r.pl.length r.pl.length) (.slice none 0 0) (chnP cs V T base r.pl).lev (chnP cs V T base r.pl).so (chnP cs V T base r.pl).eo ∧
  Row w r.gi 3 (nums .i64 (nats r.pl)) ∧ Row w r.gt 77 (clsU (r.pl.map (cat T))) ∧ B ≤ r.q ∧ B ≤ r.gt ∧ B ≤ r.gi
structure CRs (w : World) (B b : Nat) (cs T : List Cl) (V : List Int) (base : Int) (R : List CR) : Prop where
  ok : ∀ r, r ∈ R → r.Ok w B b cs T V base
  nq : (R.map CR.q).Nodup
  nt : (R.map CR.gt).Nodup
theorem CR.Ok.upd {S : List Nat} {w w' : World} {B b : Nat} {cs T : List Cl} {V : List Int} {base : Int} {r : CR} (h : r.Ok w B b cs T V base) (hu : Upd S w w') (h1 : r.q ∉ S) (h2 : r.gi ∉ S) (h3 : r.gt ∉ S) : r.Ok w' B b cs T V base :=
  ⟨h.1.upd hu h1, h.2.1.upd hu h2, h.2.2.1.upd hu h3, h.2.2.2⟩
theorem CRs.upd0 {w w' : World} {B b : Nat} {cs T : List Cl} {V : List Int} {base : Int} {R : List CR} (h : CRs w B b cs T V base R) (hu : Upd [] w w') : CRs w' B b cs T V base R :=
  ⟨fun r hr => (h.ok r hr).upd hu (by simp) (by simp) (by simp), h.nq, h.nt⟩
theorem CRs.nil (w : World) (B b : Nat) (cs T : List Cl) (V : List Int) (base : Int) : CRs w B b cs T V base [] := ⟨by simp, by simp, by simp⟩
theorem CRs.snoc {w : World} {B b : Nat} {cs T : List Cl} {V : List Int} {base : Int} {R : List CR} {r : CR} (h : CRs w B b cs T V base R) (hr : r.Ok w B b cs T V base) (hn : ∀ x, x ∈ R → x.q < r.q ∧ x.gt < r.gt) : CRs w B b cs T V base (R ++ [r]) := by
  refine ⟨fun x hx => ?_, ?_, ?_⟩
  · rcases List.mem_append.1 hx with hx | hx
    · exact h.ok x hx
    · simp at hx; subst hx; exact hr
  · rw [List.map_append, List.nodup_append]
    refine ⟨h.nq, by simp, fun a ha c hc => ?_⟩
    simp at hc; subst hc
    obtain ⟨x, hx, rfl⟩ := List.mem_map.1 ha
    have := (hn x hx).1; omega
  · rw [List.map_append, List.nodup_append]
    refine ⟨h.nt, by simp, fun a ha c hc => ?_⟩
    simp at hc; subst hc
    obtain ⟨x, hx, rfl⟩ := List.mem_map.1 ha
    have := (hn x hx).2; omega
theorem CRs.lt {w : World} {B b : Nat} {cs T : List Cl} {V : List Int} {base : Int} {R : List CR} (h : CRs w B b cs T V base R) : ∀ r, r ∈ R → r.q < w.heap.size ∧ r.gt < w.heap.size := fun r hr => ⟨Row.lt (h.ok r hr).1, (h.ok r hr).2.2.1.lt⟩
def CR.p (r : CR) : Value := .pointer (some ⟨r.q, 0, none⟩)
/-- The sequences handed back. -/
def RetSeqs (w : World) (b : Nat) (cs T : List Cl) (V : List Int) (base : Int) (e : Ending) (w' : World) : Prop :=
  ∃ (g cap : Nat) (R : List CR), e = .returned (.slice (some ⟨g, 0, none⟩) R.length cap) ∧ R.map CR.pl = chnsP cs (klv cs V) ∧ Row w' g 120 (R.map CR.p) ∧ CRs w' w.heap.size b cs T V base R ∧ w.heap.size ≤ g ∧ Upd [] w w'

/-- The run of each place, as far as i runs and t places of the next one. -/
def RfOk (rs : List (List Nat)) (i t : Nat) (rf : List Int) : Prop :=
  (∀ k x, k < i → k < rs.length → x ∈ lat rs k → nth rf x = k) ∧ ∀ u, u < t → nth rf (nat (lat rs i) u) = i
theorem RfOk.start (rs : List (List Nat)) (rf : List Int) : RfOk rs 0 0 rf := ⟨fun k x h => by omega, fun u h => by omega⟩
theorem RfOk.set {kl : List Int} {i t : Nat} {rf : List Int} (h : RfOk (runs kl) i t rf) (hi : i < (runs kl).length) (ht : t < (lat (runs kl) i).length) (hl : kl.length ≤ rf.length) : RfOk (runs kl) i (t + 1) (rf.set (nat (lat (runs kl) i) t) i) := by
  have hm := nat_mem ht
  have hx := ((runs_mem (lat_mem hi)).2 _ hm).1
  refine ⟨fun k x hk hkl hxk => ?_, fun u hu => ?_⟩
  · rw [nth_set (by omega)]
    by_cases e : x = nat (lat (runs kl) i) t
    · subst e
      have := runs_disj hkl hi hxk hm
      omega
    · rw [if_neg e]; exact h.1 k x hk hkl hxk
  · rw [nth_set (by omega)]
    split
    · rfl
    · rename_i e
      by_cases e2 : u = t
      · subst e2; exact absurd rfl e
      · exact h.2 u (by omega)
theorem RfOk.next {kl : List Int} {i : Nat} {rf : List Int} (h : RfOk (runs kl) i (lat (runs kl) i).length rf) : RfOk (runs kl) (i + 1) 0 rf := by
  refine ⟨fun k x hk hkl hx => ?_, fun u hu => by omega⟩
  by_cases e : k = i
  · subst e
    obtain ⟨u, hu, rfl⟩ := List.getElem_of_mem hx
    rw [nat_eq hu]; exact h.2 u hu
  · exact h.1 k x (by omega) hkl hx
end Go.Proofs.YtjahmnenfknjgaaGreatDoor
namespace Go.Proofs.YtjahmnenfknjgaaGreatDoor
open Go.RowKit

/-- Operation i is guarded by what slot d holds, writes slot e, and d is not its own. -/
def gOk (ops : Array Oper) (d i e : Nat) : Bool :=
  match ops[i]? with
  | some o => (match o.guard with | some (j, want) => want && ((ops[j]?).bind (·.dst) == some d) | none => false) && (o.dst == some e) && !(e == d)
  | none => false
def passOk (md : Region.Mode) (ops : Array Oper) (d : Nat) : List (Nat × Nat) → Array Bool → Bool
  | [], _ => true
  | (i, e) :: is, listed => gOk ops d i e && Region.free md ops listed i && (Region.ready md ops listed).contains i && passOk md ops d is (listed.setIfInBounds i true)
def listAll : List (Nat × Nat) → Array Bool → Array Bool
  | [], l => l
  | (i, _) :: is, l => listAll is (l.setIfInBounds i true)
def putAll : List (Nat × Nat) → Act → Act
  | [], a => a
  | (_, e) :: is, a => putAll is (a.put (some e) undef)
theorem put_keep {a : Act} {d : Nat} {e : Option Nat} {v u : Value} (h : a.tmps[d]? = some v) (hn : e ≠ some d) : (a.put e u).tmps[d]? = some v := by
  cases e with
  | none => exact h
  | some e =>
    have : e ≠ d := fun x => hn (by rw [x])
    simp only [Act.put]
    rw [Array.getElem?_setIfInBounds_ne (by omega)]; exact h
theorem wpAnyH_pass {P : Program} {ops : Array Oper} {Q : Exit → Act → World → Prop} {md : Region.Mode} {S : World → Prop} {d : Nat} (hs : Region.noSelect ops = true) (hQ : ∀ c a e v w, Q (.panic c) (a.put e v) w → Q (.panic c) a w) :
    ∀ (is : List (Nat × Nat)) (listed : Array Bool) (a : Act) (w : World) (fuel : Nat), passOk md ops d is listed = true → a.tmps[d]? = some (.bool false) → S w → wpAnyH P md ops Q S fuel (listAll is listed) (putAll is a) w → wpAnyH P md ops Q S (fuel + is.length) listed a w
  | [], listed, a, w, fuel, _, _, _, h => h
  | (i, e) :: is, listed, a, w, fuel, hc, hv, hS, h => by
    simp only [passOk, Bool.and_eq_true] at hc
    obtain ⟨⟨⟨h1, h2⟩, h3⟩, h4⟩ := hc
    unfold gOk at h1
    cases ho : ops[i]? with
    | none => rw [ho] at h1; simp at h1
    | some o =>
      rw [ho] at h1
      simp only [Bool.and_eq_true, Bool.not_eq_true', beq_eq_false_iff_ne, beq_iff_eq] at h1
      obtain ⟨⟨hg, he⟩, hd⟩ := h1
      cases hgu : o.guard with
      | none => rw [hgu] at hg; simp at hg
      | some jw =>
        obtain ⟨j, want⟩ := jw
        rw [hgu] at hg
        simp only [Bool.and_eq_true, beq_iff_eq] at hg
        refine wpAnyH_take (i := i) (oi := o) (v := undef) (fuel := fuel + is.length) ho hs h2 h3 (fun c a w => hQ c a _ _ w) (.inr ⟨?_, rfl⟩) hS ?_
        · rw [Region.wanted, hgu]
          simp only [yielded, hg.2, Option.bind_some, hv, hg.1]
          rfl
        · rw [he]
          refine wpAnyH_pass hs hQ is _ _ w fuel h4 (put_keep hv (by simpa using hd)) hS ?_
          exact h
end Go.Proofs.YtjahmnenfknjgaaGreatDoor
namespace Go.Proofs.YtjahmnenfknjgaaGreatDoor
open Go.RowKit

theorem RF.set {D : RB} {cs T : List Cl} {V : List Int} {L : List Rn} {rf : List Int} {w : World} (h : RF D cs T V L rf w) (x : Nat) (v : Int) (hx : x < rf.length) (n1 : D.gr ≠ D.gm) (n2 : D.gr ≠ D.gs) (n3 : ∀ y, y ∈ L → y.g ≠ D.gr) :
    RF D cs T V L (rf.set x v) (w.setCell ⟨D.gr, x, none⟩ (.int .i64 v)) := by
  have hu : Upd [D.gr] w (w.setCell ⟨D.gr, x, none⟩ (.int .i64 v)) := (Upd.refl _ _).setCell (.inl (by simp)) _
  exact ⟨Par.upd h.par hu (by simpa using Row.ne_type h.par h.rf (by decide)), h.r0.upd hu (by simpa using Row.ne_type h.r0 h.rf (by decide)), h.rT.upd hu (by simpa using Row.ne_type h.rT h.rf (by decide)), h.rL.upd hu (by simpa using Row.ne_type h.rL h.rf (by decide)),
    h.rm.upd hu (by simpa using fun e => n1 e.symm), h.rs.upd hu (by simpa using fun e => n2 e.symm), h.rR.upd hu (by simpa using Row.ne_type h.rR h.rf (by decide)), h.ri.upd hu (fun y hy => by simpa using n3 y hy), h.rf.setNum x v hx⟩
/-- The header of an inner slice at its place. -/
theorem RF.hd {D : RB} {cs T : List Cl} {V : List Int} {L : List Rn} {rf : List Int} {w : World} (h : RF D cs T V L rf w) (i : Nat) (hi : i < L.length) : w.cell? ⟨D.gR, i, none⟩ = some (.slice (some ⟨L[i].g, 0, none⟩) L[i].r.length L[i].cap) := by
  rw [h.rR.cell i (by simpa using hi), List.getElem_map]; rfl
theorem RF.run {D : RB} {cs T : List Cl} {V : List Int} {L : List Rn} {rf : List Int} {w : World} (h : RF D cs T V L rf w) {x : Rn} (hx : x ∈ L) (t : Nat) (ht : t < x.r.length) : w.cell? ⟨x.g, t, none⟩ = some (.int .i64 (nat x.r t)) := by
  have := (h.ri.own x hx).row.num t (by rw [nats_length]; exact ht)
  rwa [nth_nats ht] at this
theorem chns_take {cs : List Cl} {kl : List Int} {i : Nat} (h : i < (runs kl).length) : (((runs kl).take (i + 1)).filter (begins cs)).map (flw cs (runs kl) cs.length) =
    (((runs kl).take i).filter (begins cs)).map (flw cs (runs kl) cs.length) ++ if begins cs (lat (runs kl) i) = true then [flw cs (runs kl) cs.length (lat (runs kl) i)] else [] := by
  rw [List.take_succ_eq_append_getElem h, List.filter_append, List.map_append]
  have : (runs kl)[i] = lat (runs kl) i := by simp [lat, h]
  rw [this]
  congr 1
  by_cases hb : begins cs (lat (runs kl) i) = true
  · simp [hb]
  · simp [hb]

theorem Row.at_add {w : World} {g : Nat} {ty : TypeId} {vs : List Value} (h : Row w g ty vs) : ∀ j u, vs[j]? = some u → w.cell? ((⟨g, 0, none⟩ : Addr).add j) = some u := fun j u hj => by
  obtain ⟨hl, rfl⟩ := List.getElem?_eq_some_iff.1 hj
  have := h.cell j hl
  by_cases e : j = 0
  · subst e; simpa [Addr.add] using this
  · simpa [Addr.add, e] using this
theorem lastOf_append (acc r : List Nat) (h : r ≠ []) : nat (acc ++ r) (acc.length + r.length - 1) = lastOf r := by
  have hp := List.length_pos_iff.2 h
  have h1 : r.length - 1 < r.length := by omega
  unfold lastOf nat
  rw [List.getD_eq_getElem?_getD, List.getD_eq_getElem?_getD, List.getElem?_append_right (by omega), show acc.length + r.length - 1 - acc.length = r.length - 1 by omega]
theorem RF.cls {D : RB} {cs T : List Cl} {V : List Int} {L : List Rn} {rf : List Int} {w : World} (h : RF D cs T V L rf w) (q : Nat) (hq : q < cs.length) : w.cell? ⟨D.g0, q, none⟩ = some (.int .u64 (cat cs q).e2) := h.r0.cls q hq
theorem RF.mt {D : RB} {cs T : List Cl} {V : List Int} {L : List Rn} {rf : List Int} {w : World} (h : RF D cs T V L rf w) (q : Nat) (hq : q < cs.length) : w.cell? ⟨D.gm, q, none⟩ = some (.int .i64 (mAt cs q)) := by
  have := h.rm.num q (by rw [mt_length]; exact hq)
  rwa [nth_mt hq] at this

theorem RF.upd120 {D : RB} {cs T : List Cl} {V : List Int} {L : List Rn} {rf : List Int} {w w' : World} {g : Nat} {vs : List Value} (h : RF D cs T V L rf w) (hg : Row w g 120 vs) (hu : Upd [g] w w') : RF D cs T V L rf w' :=
  ⟨Par.upd h.par hu (by simpa using Row.ne_type h.par hg (by decide)), h.r0.upd hu (by simpa using Row.ne_type h.r0 hg (by decide)), h.rT.upd hu (by simpa using Row.ne_type h.rT hg (by decide)), h.rL.upd hu (by simpa using Row.ne_type h.rL hg (by decide)),
    h.rm.upd hu (by simpa using Row.ne_type h.rm hg (by decide)), h.rs.upd hu (by simpa using Row.ne_type h.rs hg (by decide)), h.rR.upd hu (by simpa using Row.ne_type h.rR hg (by decide)), h.ri.upd hu (fun y hy => by simpa using Row.ne_type (h.ri.own y hy).row hg (by decide)), h.rf.upd hu (by simpa using Row.ne_type h.rf hg (by decide))⟩
theorem CR.Ok.upd120 {w w' : World} {B b g : Nat} {cs T : List Cl} {V : List Int} {base : Int} {r : CR} {vs : List Value} (h : r.Ok w B b cs T V base) (hg : Row w g 120 vs) (hu : Upd [g] w w') : r.Ok w' B b cs T V base :=
  h.upd hu (by simpa using Row.ne_type h.1 hg (by decide)) (by simpa using Row.ne_type h.2.1 hg (by decide)) (by simpa using Row.ne_type h.2.2.1 hg (by decide))
theorem CRs.upd120 {w w' : World} {B b g : Nat} {cs T : List Cl} {V : List Int} {base : Int} {R : List CR} {vs : List Value} (h : CRs w B b cs T V base R) (hg : Row w g 120 vs) (hu : Upd [g] w w') : CRs w' B b cs T V base R :=
  ⟨fun r hr => (h.ok r hr).upd120 hg hu, h.nq, h.nt⟩
theorem in_updD {l : List Cl} {n : Nat} {c : Cl} {w : World} {g : Nat} {vs : Array Value} (b : Bool) (hg : g = w.heap.size) (hv : vs = (clsU l).toArray) (hn : l.length = n) (hb : l.contains c = b) (hm : n ≤ 2147483647) (k : Nat) :
    Calls Tryz.prog 106 #[.int .u64 c.e2, .slice (some ⟨g, 0, none⟩) n k] (w.alloc (.cells vs 77)).drew fun e w' => e = .returned (.bool b) ∧ Upd [] w w' := by
  subst hg hv
  refine (in_row b (Row.drew (Row.new w 77 (clsU l))) hn hb hm k).mono ?_
  rintro e w' ⟨rfl, rfl⟩
  exact ⟨rfl, ((Upd.refl _ _).alloc _).drew⟩
theorem RF.three {D : RB} {cs T : List Cl} {V : List Int} {L : List Rn} {rf : List Int} {w : World} (h : RF D cs T V L rf w) (q : Nat) (hq : q < cs.length) (x : Int) (hx : mAt cs q = x) :
    w.cell? ⟨D.b, 0, none⟩ = some (.slice (some ⟨D.g0, 0, none⟩) D.n D.k0) ∧ w.cell? ⟨D.b, 6, none⟩ = some (.slice (some ⟨D.gm, 0, none⟩) D.n D.n) ∧ w.cell? ⟨D.gm, q, none⟩ = some (.int .i64 x) :=
  ⟨h.par.cells.c0, h.par.cells.c6, by rw [h.mt q hq, hx]⟩
theorem flw_ge (cs : List Cl) (rs : List (List Nat)) (f : Nat) (r : List Nat) : r.length ≤ (flw cs rs f r).length := by
  cases f with
  | zero => exact Nat.le_refl _
  | succ f =>
    unfold flw
    cases nxt cs rs r with
    | none => exact Nat.le_refl _
    | some r' => simp
set_option maxHeartbeats 16000000 in
set_option maxRecDepth 100000 in
theorem sequences_any (b g0 k0 gT kT gL kL gm gs : Nat) (pt pv : Value) (base : Int) (cs T : List Cl) (V : List Int) (w : World)
    (hp : Par w b (.slice (some ⟨g0, 0, none⟩) cs.length k0) pt pv base (.slice (some ⟨gT, 0, none⟩) cs.length kT) (.slice (some ⟨gL, 0, none⟩) cs.length kL) (.slice (some ⟨gm, 0, none⟩) cs.length cs.length) (.slice (some ⟨gs, 0, none⟩) cs.length cs.length))
    (hc0 : Row w g0 77 (clsU cs)) (hT : Row w gT 77 (clsU T)) (hV : Row w gL 112 (nums .i8 V)) (hgm : Row w gm 3 (nums .i64 (mt cs))) (hgs : Row w gs 3 (nums .i64 (msI cs)))
    (hTl : T.length = cs.length) (hVl : V.length = cs.length) (hpos : ∀ q, q < cs.length → (cat cs q).isRem = false → 0 ≤ nth V q ∧ nth V q ≤ 125) (hbase : base = 0 ∨ base = 1) (hm : cs.length ≤ 2147483647) :
    Calls Tryz.prog 83 #[.pointer (some ⟨b, 0, none⟩)] w (RetSeqs w b cs T V base) := by
  obtain ⟨i0, hi', hz0, hz1, hz2⟩ := info_parts info3
  obtain ⟨i1, hj', hy0, hy1, hy2⟩ := info_parts info120
  have HP := Lib.hid hpos
  have HTL := Lib.hid hTl
  have HVL := Lib.hid hVl
  have HB := Lib.hid hbase
  have HP1 : Hid (∀ q, q < cs.length → (cat cs q).isRem = false → 0 ≤ nth V q) := fun q h1 h2 => (hpos q h1 h2).1
  have hlr := (klv_length cs V)
  clear hpos hTl hVl hbase
  go_enter Tryz.func83, Tryz.ntmps83
  go_wp2_with (first
    | (go_at_call 105; refine (levelRuns_any b g0 k0 gL kL cs V w hp.cells.c0 hp.cells.c5 hc0 hV HVL.out HP1.out hm).mono ?_; rintro e w1 ⟨gR, cR, L, rfl, hLr, hown, hri, hu1⟩; have hq1 := Par.upd hp hu1 (by simp); have c0 := hq1.cells.c0)
    | (go_at_call 102; refine (len_any b cs.length _ _ _ (by assumption)).mono ?_; rintro e w' ⟨rfl, rfl⟩)
    | (at_make; refine wpList_make_full _ rfl _ _ 22 rfl w1.heap.size 3 i0 (.int .i64 0) 1 Tryz.underlying22 hi' hz0 hz1 _ _ _ _ cs.length rfl rfl rfl rfl ?b1 ?b2 ?b3 ?_))
  case b1 => rw [hz2]; omega
  case b2 => unfold maxLen; omega
  case b3 => exact Nat.le_refl _
  intro w2 hown2 hgrow2
  rw [made_nums] at hown2
  have hO2 := Row.of_owns hown2
  have hu12 : Upd [] w1 w2 := (Upd.refl _ _).grown0 hgrow2
  have hu2 : Upd [] w w2 := hu1.then hu12
  obtain ⟨D, hD⟩ : ∃ D : RB, D = ⟨b, g0, k0, gT, kT, gL, kL, gm, gs, gR, w1.heap.size, w.heap.size, cs.length, pt, pv, base⟩ := ⟨_, rfl⟩
  have hF0 : RF D cs T V L (List.replicate cs.length 0) w2 := by
    rw [hD]
    exact ⟨Par.upd hp hu2 (by simp), hc0.upd hu2 (by simp), hT.upd hu2 (by simp), hV.upd hu2 (by simp), hgm.upd hu2 (by simp), hgs.upd hu2 (by simp), (Row.of_owns hown).upd hu12 (by simp), hri.keep hu12, hO2⟩
  have hszz := hu1.size
  have d1 : D.gr ≠ D.gm := by rw [hD]; have := hgm.lt; simp only []; omega
  have d2 : D.gr ≠ D.gs := by rw [hD]; have := hgs.lt; simp only []; omega
  have d3 : ∀ y, y ∈ L → y.g ≠ D.gr := fun y hy => by rw [hD]; have := hri.lt y hy; simp only []; omega
  have d4 : w.heap.size ≤ D.gr := by rw [hD]; exact hszz
  obtain ⟨eb, e0, ek0, eT, ekT, eL, ekL, em, es, eR, er, eB, en, ept, epv, ebs⟩ : b = D.b ∧ g0 = D.g0 ∧ k0 = D.k0 ∧ gT = D.gT ∧ kT = D.kT ∧ gL = D.gL ∧ kL = D.kL ∧ gm = D.gm ∧ gs = D.gs ∧ gR = D.gR ∧ w1.heap.size = D.gr ∧ w.heap.size = D.B ∧ cs.length = D.n ∧ pt = D.pt ∧ pv = D.pv ∧ base = D.base := by rw [hD]; simp
  rw [er]
  have HD3 := Lib.hid d3
  have HLR := Lib.hid hLr
  have HEB := Lib.hid eB
  have HEN := Lib.hid en
  have HU2 := Lib.hid hu2
  have HF0 := Lib.hid hF0
  clear hF0 d3 hLr hown hri hq1 c0 hown2 hgrow2 hO2 hu12 hu2 hu1 hszz hD er eB
  subst eb e0 ek0 eT ekT eL ekL em es eR ept epv ebs
  have hLn : L.length ≤ cs.length := by
    have h1 := rst_len (klv cs V) (klv cs V).length
    have h2 : (L.map Rn.r).length = (runs (klv cs V)).length := by rw [HLR.out]
    rw [List.length_map] at h2
    rw [h2]; unfold runs; rw [klv_length] at h1 ⊢; exact h1
  have HLL : Hid (L.length = (runs (klv cs V)).length) := by
    show _ = _
    have h2 : (L.map Rn.r).length = (runs (klv cs V)).length := by rw [HLR.out]
    rwa [List.length_map] at h2
  have HLat : Hid (∀ i, (h : i < L.length) → lat (runs (klv cs V)) i = L[i].r) := fun i h => by rw [← HLR.out]; exact lat_map h
  rw [en] at hLn hm hlr ⊢
  go_wp2
  go_loopg [23] (L.length + 1) (fun k i wr => ∃ (j : Nat) (rf : List Int), i = .int .i64 j ∧ j ≤ L.length ∧ RF D cs T V L rf wr ∧ rf.length = D.n ∧ Hid (RfOk (runs (klv cs V)) j 0 rf) ∧ Upd [] w wr ∧ Hid (L.length + 1 - j ≤ k))
  case atStart => exact ⟨0, _, rfl, by omega, HF0.out, by rw [List.length_replicate]; exact HEN.out, RfOk.start _ _, HU2.out, Nat.le_refl _⟩
  case round =>
    obtain ⟨j, rf, rfl, hj, hF, hrl, HRF, hu, hk⟩ := hrel
    by_cases hlt : j < L.length
    · have hh := hF.hd j hlt
      have HLj := Lib.hid (HLat.out j hlt)
      have hxm : L[j] ∈ L := List.getElem_mem hlt
      obtain ⟨x, hx⟩ : ∃ x, x = L[j] := ⟨_, rfl⟩
      rw [← hx] at hh HLj hxm
      clear hx
      have hxr := runs_mem (lv := klv cs V) (r := x.r) (by rw [← HLR.out]; exact List.mem_map.2 ⟨x, hxm, rfl⟩)
      rw [klv_length] at hxr
      have HXR : Hid (∀ q, q ∈ x.r → q < D.n) := fun q hq => by have := (hxr.2 q hq).1; rw [HEN.out] at this; exact this
      have hxl : x.r.length ≤ D.n := by
        have h1 := (rst_mem (klv cs V) _ x.r (by rw [show (rst (klv cs V) (klv cs V).length).1 = runs (klv cs V) from rfl, ← HLR.out]; exact List.mem_map.2 ⟨x, hxm, rfl⟩)).2.1
        rw [hlr] at h1; exact h1
      clear hxr
      go_wp2
      go_loopg [30] (x.r.length + 1) (fun k i wr => ∃ (t : Nat) (rf : List Int), i = .int .i64 t ∧ t ≤ x.r.length ∧ RF D cs T V L rf wr ∧ rf.length = D.n ∧ Hid (RfOk (runs (klv cs V)) j t rf) ∧ Upd [] w wr ∧ Hid (x.r.length + 1 - t ≤ k))
      case atStart => exact ⟨0, rf, rfl, by omega, hF, hrl, HRF, hu, Nat.le_refl _⟩
      case round =>
        clear hF HRF hu hrl hh
        obtain ⟨t, rf, rfl, ht, hF, hrl, HRF, hu, hk2⟩ := hrel
        by_cases htl : t < x.r.length
        · have hxc := hF.run hxm t htl
          have hxi := HXR.out _ (nat_mem htl)
          have hrc := hF.rf.num (nat x.r t) (by rw [hrl]; exact hxi)
          have hrf := hF.rf.free (nat x.r t)
          have HS : Hid (RfOk (runs (klv cs V)) j (t + 1) (rf.set (nat x.r t) j)) := by
            have := HRF.out.set (by rw [← HLL.out]; exact hlt) (by rw [HLj.out]; exact htl) (by rw [hlr, hrl]; exact Nat.le_refl _)
            rw [HLj.out] at this; exact this
          have hF2 := hF.set (nat x.r t) j (by rw [hrl]; exact hxi) d1 d2 HD3.out
          obtain ⟨y, hy⟩ : ∃ y, y = nat x.r t := ⟨_, rfl⟩
          rw [← hy] at hxc hxi hrc hrf HS hF2
          have HF2 := Lib.hid hF2
          clear hy hF2
          go_wp2
          go_roundg (x.r.length + 1 - (t + 1))
          case measure => have := hk2.out; omega
          case rel => exact ⟨t + 1, _, by go_num, by omega, HF2.out, by simpa using hrl, HS, hu.setCell (p := ⟨D.gr, y, none⟩) (.inr d4) _, Nat.le_refl _⟩
        · have HS : Hid (RfOk (runs (klv cs V)) (j + 1) 0 rf) := by
            obtain rfl : t = x.r.length := by omega
            refine RfOk.next ?_
            rw [HLj.out]; exact HRF.out
          go_wp2
          go_roundg (L.length + 1 - (j + 1))
          case measure => have := hk.out; omega
          case rel => exact ⟨j + 1, rf, by go_num, by omega, hF, hrl, HS, hu, Nat.le_refl _⟩
    · have HRI : Hid (∀ x, x < cs.length → nth (klv cs V) x ≠ -1 → nth rf x = runOf (runs (klv cs V)) x) := fun x h1 h2 => by
        obtain ⟨h3, h4⟩ := runOf_in (kl := klv cs V) (by rw [klv_length]; exact h1) h2
        exact HRF.out.1 _ x (by rw [← HLL.out] at h3; omega) h3 h4
      have HFF := Lib.hid hF
      have HUU := Lib.hid hu
      clear HF0 HRF
      go_wp2
      clear hF hu hk hlt hj
      have HW0 : Hid ((wr.alloc (.cells #[] 120)).ownsRow w.heap.size 120 1 (.slice (some ⟨wr.heap.size, 0, none⟩) 0 0) 0 []) := World.ownsRow_lit (base := w.heap.size) (e := 120) (size := 1) wr #[] 0 HUU.out.size (by decide) rfl
      go_loopg [9, 43] (L.length + 1) (fun k s i wr => ∃ (j g cap : Nat) (R : List CR), s = .slice (some ⟨g, 0, none⟩) R.length cap ∧ i = .int .i64 j ∧ j ≤ L.length ∧ RF D cs T V L rf wr ∧ wr.ownsRow w.heap.size 120 1 (.slice (some ⟨g, 0, none⟩) R.length cap) R.length (R.map CR.p) ∧ CRs wr w.heap.size D.b cs T V D.base R ∧
        Hid (R.map CR.pl = (((runs (klv cs V)).take j).filter (begins cs)).map (flw cs (runs (klv cs V)) cs.length)) ∧ Upd [] w wr ∧ Hid (L.length + 1 - j ≤ k))
      case atStart => exact ⟨0, wr.heap.size, 0, [], rfl, rfl, by omega, HFF.out.upd0 ((Upd.refl _ _).alloc _), HW0.out, CRs.nil _ _ _ _ _ _ _, rfl, HUU.out.alloc _, Nat.le_refl _⟩
      case round =>
        clear HW0 HFF HUU
        rename_i wr0 _ _ _ _
        obtain ⟨j, gq, cap, R, rfl, rfl, hj, hF, hown, hR, HRP, hu, hk⟩ := hrel
        by_cases hlt : j < L.length
        · have hRl : R.length ≤ j := by
            have h1 : (R.map CR.pl).length = _ := congrArg List.length HRP.out
            rw [List.length_map, List.length_map] at h1
            have h2 := List.length_filter_le (begins cs) ((runs (klv cs V)).take j)
            rw [List.length_take] at h2
            omega
          have hh := hF.hd j hlt
          have HLj := Lib.hid (HLat.out j hlt)
          have hxm : L[j] ∈ L := List.getElem_mem hlt
          obtain ⟨x, hx⟩ : ∃ x, x = L[j] := ⟨_, rfl⟩
          rw [← hx] at hh HLj hxm
          clear hx
          have HM : Hid (∀ y, y ∈ L → y.r ∈ runs (klv cs V)) := fun y hy => by rw [← HLR.out]; exact List.mem_map.2 ⟨y, hy, rfl⟩
          have hxr := runs_mem (HM.out x hxm)
          have hx0 : 0 < x.r.length := List.length_pos_iff.2 hxr.1
          have hf0 := (hxr.2 _ (nat_mem hx0)).1
          rw [klv_length] at hf0
          have hcx := hF.run hxm 0 hx0
          have hcc := hF.cls (nat x.r 0) hf0
          have hcs := hF.rs.num (nat x.r 0) (by unfold msI; rw [msK_length]; exact hf0)
          have c0 := hF.par.cells.c0
          have c7 := hF.par.cells.c7
          have hbq : ((cat cs (nat x.r 0)).e2 == 24) = decide (cat cs (nat x.r 0) = .PDI) := Cl.e2_beq _ .PDI
          obtain ⟨bg, hbg⟩ : ∃ bg, bg = begins cs x.r := ⟨_, rfl⟩
          have HBG := Lib.hid hbg
          rw [begins] at hbg
          obtain ⟨z, hz⟩ : ∃ z, z = nat x.r 0 := ⟨_, rfl⟩
          rw [← hz] at hf0 hcx hcc hcs hbq hbg
          obtain ⟨mi, hmi⟩ : ∃ mi, mi = nth (msI cs) z := ⟨_, rfl⟩
          rw [← hmi] at hcs hbg
          have hf0n : z < D.n := by omega
          clear hxr hz hmi
          go_upto_region 18 with fail
          go_cut [67] (fun v wx => v = .bool bg ∧ wr = wx)
          case first =>
            by_cases hpd : cat cs z = .PDI
            · rw [decide_eq_true hpd] at hbq
              have hb1 : ((cat cs z).e2 != 24) = false := by rw [hpd]; rfl
              rw [hpd] at hbg
              by_cases hm1 : mi = -1
              · have hb2 : (mi == -1) = true := by simpa using hm1
                have HV1 : Hid (bg = true) := by show _ = _; rw [hbg, hm1]; rfl
                clear hpd hm1 hbg
                go_wp2
                go_meet
                case rel => exact ⟨by rw [HV1.out], rfl⟩
              · have hb2 : (mi == -1) = false := by simpa using hm1
                have HV1 : Hid (bg = false) := by show _ = _; rw [hbg, hb2]; rfl
                clear hpd hm1 hbg
                go_wp2
                go_meet
                case rel => exact ⟨by rw [HV1.out], rfl⟩
            · rw [decide_eq_false hpd] at hbq
              have hb1 : ((cat cs z).e2 != 24) = true := by show (!((cat cs z).e2 == 24)) = true; rw [hbq]; rfl
              have HV1 : Hid (bg = true) := by show _ = _; rw [hbg]; simp [hpd]
              clear hpd hbg
              go_wp2
              go_meet
              case rel => exact ⟨by rw [HV1.out], rfl⟩
          case rest =>
            obtain ⟨rfl, rfl⟩ := hcut
            have HTK := Lib.hid (chns_take (cs := cs) (kl := klv cs V) (i := j) (by rw [← HLL.out]; exact hlt))
            cases hbv : bg with
            | false =>
              have HS : Hid (R.map CR.pl = (((runs (klv cs V)).take (j + 1)).filter (begins cs)).map (flw cs (runs (klv cs V)) cs.length)) := by
                show _ = _
                rw [HTK.out, HLj.out, ← HBG.out, hbv, HRP.out]; simp
              clear hbv
              go_wp2
              go_roundg (L.length + 1 - (j + 1))
              case measure => have := hk.out; omega
              case rel => exact ⟨j + 1, gq, cap, R, rfl, by go_num, by omega, hF, hown, hR, HS, hu, Nat.le_refl _⟩
            | true =>
              obtain ⟨tgt, htgt⟩ : ∃ tgt, tgt = flw cs (runs (klv cs V)) cs.length x.r := ⟨_, rfl⟩
              have HS : Hid (R.map CR.pl ++ [tgt] = (((runs (klv cs V)).take (j + 1)).filter (begins cs)).map (flw cs (runs (klv cs V)) cs.length)) := by
                show _ = _
                rw [HTK.out, HLj.out, ← HBG.out, hbv, HRP.out, htgt]; simp
              have HTG := Lib.hid htgt.symm
              have HKP : Hid (∀ q, q < cs.length → cat cs q = .PDI → nth (klv cs V) q ≠ -1) := fun q h1 h2 => by
                rw [nth_klv h1, h2]
                have := HP1.out q h1 (by rw [h2]; rfl)
                simp [Cl.isRem]; omega
              have htl : tgt.length ≤ D.n := by
                have h1 := flw_len (f := cs.length) (klv_length cs V) HKP.out (HM.out x hxm) (Nat.le_add_right _ _)
                rw [htgt, ← HEN.out]; exact h1
              clear hbv htgt hcx hcc hcs hbq c7 hh
              have hF1 := Lib.hid hF
              have hown1 := Lib.hid hown
              have hR1 := Lib.hid hR
              obtain ⟨B0, hB0⟩ : ∃ B0, B0 = wr.heap.size := ⟨_, rfl⟩
              have HB0 := Lib.hid hB0
              clear hF hown hR c0 hB0
              go_wp2
              go_loopg [10, 12] (D.n + 1) (fun k u v wx => ∃ (cv : Value) (acc : List Nat) (y : Rn) (f : Nat), cv = u ∧ v = .slice (some ⟨y.g, 0, none⟩) y.r.length y.cap ∧ y ∈ L ∧ wx.ownsRow B0 3 1 cv acc.length (nums .i64 (nats acc)) ∧ Upd [] wr wx ∧ Hid (acc ++ flw cs (runs (klv cs V)) f y.r = tgt) ∧ Hid (D.n ≤ f + lastOf y.r) ∧ Hid (f + 1 ≤ k))
              case atStart => exact ⟨_, [], x, D.n, rfl, rfl, hxm, World.ownsRow_nil _ _ _ _, Upd.refl _ _, by show _ = _; rw [List.nil_append, ← HEN.out]; exact HTG.out, Nat.le_add_right _ _, Nat.le_refl _⟩
              case round =>
                obtain ⟨cv, acc, y, f, rfl, rfl, hym, hown2, hv, HA, HFL, hk2⟩ := hrel
                have hyr := runs_mem (HM.out y hym)
                have hyp : 0 < y.r.length := List.length_pos_iff.2 hyr.1
                have hlen : acc.length + y.r.length ≤ D.n := by
                  have h1 := flw_ge cs (runs (klv cs V)) f y.r
                  have h2 := congrArg List.length HA.out
                  rw [List.length_append] at h2
                  omega
                obtain ⟨N, hN⟩ : ∃ N, acc.length + y.r.length = N + 1 := ⟨acc.length + y.r.length - 1, by omega⟩
                have hNi : ((N + 1 : Nat) : Int) - 1 = N := by omega
                have hla := (hyr.2 _ (lastOf_mem hyr.1)).1
                rw [klv_length] at hla
                have HLA : Hid (nat (acc ++ y.r) N = lastOf y.r) := by
                  show _ = _
                  rw [show N = acc.length + y.r.length - 1 by omega]; exact lastOf_append _ _ hyr.1
                have hNl : N < (acc ++ y.r).length := by rw [List.length_append]; omega
                have HYC := Lib.hid ((hF1.out.upd0 hv).ri.own y hym).row.at_add
                have HNN := Lib.hid hN
                have HYR := Lib.hid hyr
                obtain ⟨la, hlae⟩ : ∃ la, la = lastOf y.r := ⟨_, rfl⟩
                rw [← hlae] at hla HLA
                have HLE := Lib.hid hlae
                have hlan : la < D.n := by omega
                have hlanm : la ≤ 2147483647 := by omega
                clear hlae hyr
                go_wp2_with (at_builtin; refine wpList_append_own _ rfl (.tmp 68) (.tmp 69) 22 rfl B0 3 i0 (.int .i64 0) 1 8 Tryz.underlying22 hi' hz0 hz1 hz2 rfl (by decide) cv acc.length _ rfl hown2 ⟨y.g, 0, none⟩ y.r.length y.cap (nums .i64 (nats y.r)) rfl (by rw [nums_length, nats_length]; simp) HYC.out (nums_one _ _) (by unfold maxLen; omega) (by omega) (by rw [HB0.out]; exact hv.size) ?_; intro v' w5 hown5 hgrow5 hnil5; obtain ⟨g5, c5, rfl, hg5⟩ := owns_slice hown5 (by omega); rw [← nums_append, ← nats_append] at hown5; rw [HNN.out] at hown5 ⊢; have hu5 := hv.grown hgrow5 (fun k e => .inr (by rw [← HB0.out]; exact (hown2.lt k e).1)); have hF5 := hF1.out.upd0 hu5; have hlc := (Row.of_owns hown5).num N (by rw [nats_length]; exact hNl); rw [nth_nats hNl, HLA.out] at hlc; have hcl := hF5.cls la hla; have hmt := hF5.mt la hla; have k0' := hF5.par.cells.c0; have k6' := hF5.par.cells.c6)
                have HF5 := Lib.hid hF5
                have HOWN5 := Lib.hid hown5
                have HU5 := Lib.hid hu5
                have hac : (acc ++ y.r).length = N + 1 := by rw [List.length_append]; exact HNN.out
                have HAC := Lib.hid hac
                clear hF5 hown5 hu5 hown2 hv hgrow5 hnil5 hlc hcl hac
                by_cases hini : (cat cs la).isInit = true
                · have B1 : Hid ([Cl.LRI, .RLI, .FSI].contains (cat cs la) = true) := (init_in _).trans hini
                  rw [mAt_init hini] at hmt
                  have hmle := mOf_le cs la
                  by_cases hmn : mOf cs la = cs.length
                  · have hb1 : ((mOf cs la : Int) != (D.n : Int)) = false := by rw [hmn, ← HEN.out]; simp
                    have HT : Hid (tgt = acc ++ y.r) := by
                      show _ = _
                      rw [← HA.out]
                      cases f with
                      | zero => rfl
                      | succ f => rw [flw, nxt, if_neg (by rw [← HLE.out]; exact fun h => h.2 hmn)]
                    have HMA := Lib.hid (mAt_init (cs := cs) hini)
                    clear hini hmn
                    go_region_held3 (fun w' => w'.cell? ⟨D.b, 0, none⟩ = some (.slice (some ⟨D.g0, 0, none⟩) D.n D.k0) ∧ w'.cell? ⟨D.b, 6, none⟩ = some (.slice (some ⟨D.gm, 0, none⟩) D.n D.n) ∧ w'.cell? ⟨D.gm, la, none⟩ = some (.int .i64 (mOf cs la)))
                      (first | exact HF5.out.three la hla _ HMA.out | exact (HF5.out.upd0 (((Upd.refl [] w5).alloc _).drew)).three la hla _ HMA.out | exact hF6.three la hla _ HMA.out)
                      (first
                        | (go_at_call 106; refine (in_updD (c := cat cs la) (l := [.LRI, .RLI, .FSI]) true (by simp) (by rfl) rfl B1.out (by decide) _).mono ?_; rintro e w6 ⟨rfl, hu6⟩; have hF6 := HF5.out.upd0 hu6)
                        | (go_at_call 102; refine (len_any D.b D.n _ _ _ hF6.par.cells.c0).mono ?_; rintro e w' ⟨rfl, rfl⟩))
                    have HPL : Hid (∀ x, x ∈ acc ++ y.r → x < cs.length ∧ (cat cs x).isRem = false) := fun z hz => by
                      have h1 := (flw_ok (klv_length cs V) HKP.out cs.length x.r (HM.out x hxm) (Nat.le_add_right _ _)).2.1 z (by rw [HTG.out, HT.out]; exact hz)
                      refine ⟨h1.2.1, ?_⟩
                      cases hr : (cat cs z).isRem with
                      | false => rfl
                      | true => exact absurd (by rw [nth_klv h1.2.1, hr]; rfl) h1.2.2
                    have hu16 := HU5.out.then hu6
                    go_wp2_with (first
                      | (go_at_call 107; refine (sequence_any D.b D.g0 D.k0 D.gT D.kT D.gL D.kL g5 c5 (N + 1) D.pt D.pv _ _ D.base cs T V (acc ++ y.r) _ (by rw [HEN.out]; exact hF6.par) hF6.r0 hF6.rT hF6.rL (Row.of_owns (own_upd HOWN5.out hu6 (by simp))) HTL.out HVL.out HP.out HB.out HAC.out (by omega) HPL.out (by rw [HEN.out]; exact hm) (by omega)).mono ?_; rintro e w7 ⟨q, gt, rfl, hq7, hgt7, hsq7, hty7, hu7⟩; have hu17 := hu16.then hu7; have hown7 := own_upd hown1.out hu17 (by simp); have hg7 := Row.of_owns hown7)
                      | (at_builtin; refine wpList_append_two _ rfl (.tmp 112) (.tmp 116) 118 rfl w.heap.size 120 i1 (.pointer none) 1 8 Tryz.underlying118 hj' hy0 hy1 hy2 rfl (by decide) gq R.length cap _ rfl (World.ownsRow.alloc hown7 _) ⟨w7.heap.size, 0, none⟩ 1 1 [.pointer (some ⟨q, 0, none⟩)] rfl rfl (one_at _ _ (by simp) _ _) (by simp [Value.oneCell']) (by unfold maxLen; omega) (by omega) (by have := (hu.then hu17).size; simp; omega) ?_; intro g8 c8 w8 hown8 hgrow8 hg8))
                    go_roundg (L.length + 1 - (j + 1))
                    case measure => have := hk.out; omega
                    case rel =>
                      have hu78 : Upd [gq] w7 w8 := ((Upd.refl [gq] w7).alloc _).grown hgrow8 (fun k e => by cases e; exact .inl (by simp))
                      have hnew : CR.Ok ⟨q, gt, g5, c5, acc ++ y.r⟩ w7 w.heap.size D.b cs T V D.base := by
                        have hs1 := (hu.then hu16).size
                        refine ⟨?_, ?_, hty7, by simp only []; omega, by simp only []; omega, ?_⟩
                        · simp only [HAC.out]; exact hsq7
                        · exact (Row.of_owns (own_upd HOWN5.out (hu6.then hu7) (by simp)))
                        · simp only []; have := hu.size; rw [HB0.out] at hg5; omega
                      refine ⟨j + 1, g8, c8, R ++ [⟨q, gt, g5, c5, acc ++ y.r⟩], by simp, by go_num, by omega, (hF1.out.upd0 hu17).upd120 hg7 hu78, ?_, ?_, ?_, ?_, Nat.le_refl _⟩
                      · simpa [CR.p] using hown8
                      · refine ((hR1.out.upd0 hu17).upd120 hg7 hu78).snoc (hnew.upd120 hg7 hu78) (fun z hz => ?_)
                        obtain ⟨z1, z2⟩ := hR1.out.lt z hz
                        have hs1 := hu16.size
                        exact ⟨by simp only []; omega, by simp only []; omega⟩
                      · show _ = _
                        rw [← HS.out, HT.out]; simp
                      · exact (hu.then hu17).step hu78 (fun t ht => by
                          simp at ht; rw [ht]
                          exact .inr (hown1.out.lt gq rfl).1)
                  · have hmlt : mOf cs la < cs.length := by omega
                    have hmltn : mOf cs la < D.n := by omega
                    have hb1 : ((mOf cs la : Int) != (D.n : Int)) = true := by simp; omega
                    have hmgt := mOf_gt hla
                    obtain ⟨hk1, hk2'⟩ := runOf_in (kl := klv cs V) (x := mOf cs la) (by rw [klv_length]; exact hmlt) (HKP.out _ hmlt (mOf_pdi hmlt))
                    have hrfm := HRI.out _ hmlt (HKP.out _ hmlt (mOf_pdi hmlt))
                    rw [← HLL.out] at hk1
                    have hnx : nxt cs (runs (klv cs V)) y.r = some (lat (runs (klv cs V)) (runOf (runs (klv cs V)) (mOf cs la))) := by
                      rw [nxt, ← HLE.out, if_pos ⟨hini, hmn⟩]
                    obtain ⟨kk, hkk⟩ : ∃ kk, kk = runOf (runs (klv cs V)) (mOf cs la) := ⟨_, rfl⟩
                    rw [← hkk] at hk1 hk2' hrfm hnx
                    have HLk := HLat.out kk hk1
                    have hym2 : L[kk] ∈ L := List.getElem_mem hk1
                    have hhd := fun wx (h : RF D cs T V L rf wx) => h.hd kk hk1
                    obtain ⟨y2, hy2'⟩ : ∃ y2, y2 = L[kk] := ⟨_, rfl⟩
                    rw [← hy2'] at HLk hym2 hhd
                    rw [HLk] at hk2' hnx
                    have hlast2 := up_last ((runs_up (klv cs V)).1 _ (HM.out y2 hym2)) (runs_mem (HM.out y2 hym2)).1 _ hk2'
                    obtain ⟨f', hf'⟩ : ∃ f', f = f' + 1 := ⟨f - 1, by have := HFL.out; rw [← HLE.out] at this; omega⟩
                    have HA2 : Hid ((acc ++ y.r) ++ flw cs (runs (klv cs V)) f' y2.r = tgt) := by
                      show _ = _
                      rw [← HA.out, hf', flw, hnx, List.append_assoc]
                    have HF2 : Hid (D.n ≤ f' + lastOf y2.r) := by
                      show _ ≤ _
                      have := HFL.out
                      rw [← HLE.out] at this
                      omega
                    have HMA := Lib.hid (mAt_init (cs := cs) hini)
                    have HHD := Lib.hid hhd
                    have HRM := Lib.hid hrfm
                    have HFE := Lib.hid hf'
                    clear hini hmn hnx hkk HLk hhd hy2' hlast2 hk2' hrfm hf' hmgt
                    go_region_held3 (fun w' => w'.cell? ⟨D.b, 0, none⟩ = some (.slice (some ⟨D.g0, 0, none⟩) D.n D.k0) ∧ w'.cell? ⟨D.b, 6, none⟩ = some (.slice (some ⟨D.gm, 0, none⟩) D.n D.n) ∧ w'.cell? ⟨D.gm, la, none⟩ = some (.int .i64 (mOf cs la)))
                      (first | exact HF5.out.three la hla _ HMA.out | exact (HF5.out.upd0 (((Upd.refl [] w5).alloc _).drew)).three la hla _ HMA.out | exact hF6.three la hla _ HMA.out)
                      (first
                        | (go_at_call 106; refine (in_updD (c := cat cs la) (l := [.LRI, .RLI, .FSI]) true (by simp) (by rfl) rfl B1.out (by decide) _).mono ?_; rintro e w6 ⟨rfl, hu6⟩; have hF6 := HF5.out.upd0 hu6)
                        | (go_at_call 102; refine (len_any D.b D.n _ _ _ hF6.par.cells.c0).mono ?_; rintro e w' ⟨rfl, rfl⟩))
                    have j6 := hF6.par.cells.c6
                    obtain ⟨-, -, jm⟩ := hF6.three la hla _ HMA.out
                    have jr := hF6.rf.num (mOf cs la) (by rw [hrl]; exact hmltn)
                    rw [HRM.out] at jr
                    have jh := HHD.out _ hF6
                    go_wp2
                    go_roundg (f' + 1)
                    case measure => have := hk2.out; have := HFE.out; omega
                    case rel => exact ⟨.slice (some ⟨g5, 0, none⟩) (N + 1) c5, acc ++ y.r, y2, f', rfl, rfl, hym2, by rw [HAC.out]; exact own_upd HOWN5.out hu6 (by simp), HU5.out.then hu6, HA2, HF2, Nat.le_refl _⟩
                · have B1 : Hid ([Cl.LRI, .RLI, .FSI].contains (cat cs la) = false) := (init_in _).trans (by simpa using hini)
                  have HT : Hid (tgt = acc ++ y.r) := by
                    show _ = _
                    rw [← HA.out]
                    cases f with
                    | zero => rfl
                    | succ f => rw [flw, nxt, if_neg (by rw [← HLE.out]; exact fun h => hini h.1)]
                  have HMA := Lib.hid (mAt_other (cs := cs) (i := la) (by simpa using hini))
                  clear hini
                  refine wp_region_held_drew (S := fun _ => True) (by kernel_rfl) trivial (fun hHeld => ?_)
                  refine wpAnyH_take (i := 0) (oi := ⟨some 84, Op.move (Operand.tmp 15), 77, "core.go:792", #[], none⟩) (v := .int .u64 (cat cs la).e2) rfl (by kernel_rfl) (by kernel_rfl) (by kernel_rfl) (fun _ _ _ h => h) (Or.inl ⟨by rfl, ?hy1⟩) hHeld ?_
                  case hy1 => (intro w hSw; go_simp)
                  try dsimp only [Act.put]
                  try simp only [Act.put, List.setIfInBounds_toArray, List.set_cons_zero, List.set_cons_succ]
                  refine wpAnyH_ready (rs := [1]) (by kernel_rfl) (by simp) ?_
                  refine AllReadyH.cons (o := ⟨some 85, Op.buildSlice 58 3 #[(0, Operand.const (Value.int IntKind.u64 21)), (1, Operand.const (Value.int IntKind.u64 22)), (2, Operand.const (Value.int IntKind.u64 23))], 58, "core.go:792", #[], none⟩) rfl (fun K hK => ?_) AllReadyH.nil
                  go_simp
                  refine hK.out _ _ trivial (fun hHeld => ?_)
                  clear hK K
                  try dsimp only [Act.put]
                  try simp only [Act.put, List.setIfInBounds_toArray, List.set_cons_zero, List.set_cons_succ]
                  refine wpAnyH_ready (rs := [2]) (by kernel_rfl) (by simp) ?_
                  refine AllReadyH.cons (o := ⟨some 86, Op.call { callee := Callee.value (Operand.func 106), args := #[Operand.tmp 84, Operand.tmp 85], argTypes := #[77, 58] }, 4, "core.go:792", #[⟨0, Ground.data⟩, ⟨1, Ground.data⟩], none⟩) rfl (fun K hK => ?_) AllReadyH.nil
                  go_simp
                  go_at_call 106
                  refine (in_updD (c := cat cs la) (l := [.LRI, .RLI, .FSI]) false (by simp) (by rfl) rfl B1.out (by decide) _).mono ?_
                  rintro e w6 ⟨rfl, hu6⟩
                  have hF6 := HF5.out.upd0 hu6
                  go_wp2_with fail
                  refine hK.out _ _ trivial (fun hHeld => ?_)
                  clear hK K
                  try dsimp only [Act.put]
                  try simp only [Act.put, List.setIfInBounds_toArray, List.set_cons_zero, List.set_cons_succ]
                  refine wpAnyH_take (i := 3) (oi := ⟨some 87, Op.move (Operand.tmp 86), 4, "core.go:792", #[⟨2, Ground.data⟩, ⟨2, Ground.chain⟩], none⟩) (v := .bool false) rfl (by kernel_rfl) (by kernel_rfl) (by kernel_rfl) (fun _ _ _ h => h) (Or.inl ⟨by rfl, ?hy2⟩) hHeld ?_
                  case hy2 => (intro w hSw; go_simp)
                  try dsimp only [Act.put]
                  try simp only [Act.put, List.setIfInBounds_toArray, List.set_cons_zero, List.set_cons_succ]
                  refine wpAnyH_pass (d := 87) (by kernel_rfl) (fun _ _ e _ _ h => by cases e <;> exact h) [(4, 88), (5, 89), (6, 90), (7, 91), (8, 92), (9, 93), (10, 94), (11, 95), (12, 96), (13, 97)] _ _ _ 1 (by kernel_rfl) (by rfl) hHeld ?_
                  dsimp only [putAll, listAll]
                  simp only [List.getElem?_toArray, List.getElem?_cons_succ, List.getElem?_cons_zero, Option.bind_some, Act.put, List.setIfInBounds_toArray, List.set_cons_zero, List.set_cons_succ]
                  refine wpAnyH_take (i := 14) (oi := ⟨some 98, Op.pick (Operand.tmp 87) (Operand.tmp 97) (Operand.const (Value.bool false)), 4, "core.go:792", #[⟨3, Ground.data⟩, ⟨13, Ground.data⟩], none⟩) (v := .bool false) rfl (by kernel_rfl) (by kernel_rfl) (by kernel_rfl) (fun _ _ _ h => h) (Or.inl ⟨by rfl, ?hy3⟩) hHeld ?_
                  case hy3 => (intro w hSw; go_simp)
                  try dsimp only [Act.put]
                  try simp only [Act.put, List.setIfInBounds_toArray, List.set_cons_zero, List.set_cons_succ]
                  refine wpAnyH_done (by kernel_rfl) ?_ _
                  have HPL : Hid (∀ x, x ∈ acc ++ y.r → x < cs.length ∧ (cat cs x).isRem = false) := fun z hz => by
                    have h1 := (flw_ok (klv_length cs V) HKP.out cs.length x.r (HM.out x hxm) (Nat.le_add_right _ _)).2.1 z (by rw [HTG.out, HT.out]; exact hz)
                    refine ⟨h1.2.1, ?_⟩
                    cases hr : (cat cs z).isRem with
                    | false => rfl
                    | true => exact absurd (by rw [nth_klv h1.2.1, hr]; rfl) h1.2.2
                  have hu16 := HU5.out.then hu6
                  go_wp2_with (first
                    | (go_at_call 107; refine (sequence_any D.b D.g0 D.k0 D.gT D.kT D.gL D.kL g5 c5 (N + 1) D.pt D.pv _ _ D.base cs T V (acc ++ y.r) _ (by rw [HEN.out]; exact hF6.par) hF6.r0 hF6.rT hF6.rL (Row.of_owns (own_upd HOWN5.out hu6 (by simp))) HTL.out HVL.out HP.out HB.out HAC.out (by omega) HPL.out (by rw [HEN.out]; exact hm) (by omega)).mono ?_; rintro e w7 ⟨q, gt, rfl, hq7, hgt7, hsq7, hty7, hu7⟩; have hu17 := hu16.then hu7; have hown7 := own_upd hown1.out hu17 (by simp); have hg7 := Row.of_owns hown7)
                    | (at_builtin; refine wpList_append_two _ rfl (.tmp 112) (.tmp 116) 118 rfl w.heap.size 120 i1 (.pointer none) 1 8 Tryz.underlying118 hj' hy0 hy1 hy2 rfl (by decide) gq R.length cap _ rfl (World.ownsRow.alloc hown7 _) ⟨w7.heap.size, 0, none⟩ 1 1 [.pointer (some ⟨q, 0, none⟩)] rfl rfl (one_at _ _ (by simp) _ _) (by simp [Value.oneCell']) (by unfold maxLen; omega) (by omega) (by have := (hu.then hu17).size; simp; omega) ?_; intro g8 c8 w8 hown8 hgrow8 hg8))
                  go_roundg (L.length + 1 - (j + 1))
                  case measure => have := hk.out; omega
                  case rel =>
                    have hu78 : Upd [gq] w7 w8 := ((Upd.refl [gq] w7).alloc _).grown hgrow8 (fun k e => by cases e; exact .inl (by simp))
                    have hnew : CR.Ok ⟨q, gt, g5, c5, acc ++ y.r⟩ w7 w.heap.size D.b cs T V D.base := by
                      have hs1 := (hu.then hu16).size
                      refine ⟨?_, ?_, hty7, by simp only []; omega, by simp only []; omega, ?_⟩
                      · simp only [HAC.out]; exact hsq7
                      · exact (Row.of_owns (own_upd HOWN5.out (hu6.then hu7) (by simp)))
                      · simp only []; have := hu.size; rw [HB0.out] at hg5; omega
                    refine ⟨j + 1, g8, c8, R ++ [⟨q, gt, g5, c5, acc ++ y.r⟩], by simp, by go_num, by omega, (hF1.out.upd0 hu17).upd120 hg7 hu78, ?_, ?_, ?_, ?_, Nat.le_refl _⟩
                    · simpa [CR.p] using hown8
                    · refine ((hR1.out.upd0 hu17).upd120 hg7 hu78).snoc (hnew.upd120 hg7 hu78) (fun z hz => ?_)
                      obtain ⟨z1, z2⟩ := hR1.out.lt z hz
                      have hs1 := hu16.size
                      exact ⟨by simp only []; omega, by simp only []; omega⟩
                    · show _ = _
                      rw [← HS.out, HT.out]; simp
                    · exact (hu.then hu17).step hu78 (fun t ht => by
                        simp at ht; rw [ht]
                        exact .inr (hown1.out.lt gq rfl).1)
        · obtain rfl : j = L.length := by omega
          have HS : Hid (R.map CR.pl = chnsP cs (klv cs V)) := by
            show _ = _
            rw [HRP.out, HLL.out, List.take_length]; rfl
          clear HRP
          go_wp2
          go_ret
          exact ⟨gq, cap, R, rfl, HS.out, Row.of_owns hown, hR, (hown.lt gq rfl).1, hu⟩
end Go.Proofs.YtjahmnenfknjgaaGreatDoor
