/- The package's L1; plain Lean. -/
import Derived.Test.YtjahmnenfknjgaaGreatDoorG6
import Derived.Test.YtjahmnenfknjgaaGreatDoorG5
import Derived.Test.YtjahmnenfknjgaaGreatDoorG12
import Derived.Test.YtjahmnenfknjgaaGreatDoorG26
set_option linter.unusedVariables false
set_option linter.unusedSimpArgs false
namespace Go.Proofs.YtjahmnenfknjgaaGreatDoor

/-- What L1 treats as white space: spaces, isolate formatting, and what X9 removes. -/
def wsP (c : Cl) : Bool := isSp c || c.isRem
/-- From place k - 1 down to place s, as long as white space stands there. -/
def bk (cs : List Cl) (a : Int) (s : Nat) : Nat → List Int → List Int
  | 0, V => V
  | k + 1, V => if s ≤ k ∧ wsP (cat cs k) = true then bk cs a s k (V.set k a) else V
/-- Clauses one to three, for the first i places. -/
def l1K (cs : List Cl) (a : Int) (V : List Int) : Nat → List Int
  | 0 => V
  | i + 1 => if cat cs i = .B ∨ cat cs i = .S then bk cs a 0 i ((l1K cs a V i).set i a) else l1K cs a V i
/-- Clause four, for the first j lines. -/
def l1L (cs : List Cl) (a : Int) (bs : List Int) (V : List Int) : Nat → List Int
  | 0 => V
  | j + 1 => bk cs a (bkl bs j).toNat (nth bs j).toNat (l1L cs a bs V j)
def getLv (cs : List Cl) (a : Int) (bs V : List Int) : List Int := l1L cs a bs (l1K cs a V cs.length) bs.length
theorem bk_length (cs : List Cl) (a : Int) (s : Nat) : ∀ (k : Nat) (V : List Int), (bk cs a s k V).length = V.length
  | 0, _ => rfl
  | k + 1, V => by
    unfold bk; split
    · rw [bk_length cs a s k, List.length_set]
    · rfl
theorem l1K_length (cs : List Cl) (a : Int) (V : List Int) : ∀ i, (l1K cs a V i).length = V.length
  | 0 => rfl
  | i + 1 => by
    unfold l1K; split
    · rw [bk_length, List.length_set, l1K_length cs a V i]
    · exact l1K_length cs a V i
theorem l1L_length (cs : List Cl) (a : Int) (bs V : List Int) : ∀ j, (l1L cs a bs V j).length = V.length
  | 0 => rfl
  | j + 1 => by unfold l1L; rw [bk_length, l1L_length cs a bs V j]
end Go.Proofs.YtjahmnenfknjgaaGreatDoor
namespace Go.Proofs.YtjahmnenfknjgaaGreatDoor

/-- White space from place q up to place k. -/
def AW (cs : List Cl) (q k : Nat) : Prop := ∀ t, q ≤ t → t < k → wsP (cat cs t) = true
theorem bk_yes {cs : List Cl} {a : Int} {s q : Nat} : ∀ (k : Nat) (V : List Int), k ≤ V.length → s ≤ q → q < k → AW cs q k → nth (bk cs a s k V) q = a
  | k + 1, V, hk, h1, h2, h3 => by
    unfold bk
    rw [if_pos ⟨by omega, h3 k (by omega) (by omega)⟩]
    by_cases e : q = k
    · subst e
      have key : ∀ (j : Nat) (W : List Int), j ≤ q → nth (bk cs a s j W) q = nth W q := by
        intro j
        induction j with
        | zero => exact fun W _ => rfl
        | succ j ih =>
          intro W hj
          unfold bk
          split
          · rw [ih _ (by omega), nth_set_ne (by omega)]
          · rfl
      rw [key q _ (Nat.le_refl _), nth_set_self (by omega)]
    · exact bk_yes k _ (by rw [List.length_set]; omega) h1 (by omega) (fun t h4 h5 => h3 t h4 (by omega))
theorem bk_no {cs : List Cl} {a : Int} {s q : Nat} : ∀ (k : Nat) (V : List Int), ¬ (s ≤ q ∧ q < k ∧ AW cs q k) → nth (bk cs a s k V) q = nth V q
  | 0, _, _ => rfl
  | k + 1, V, h => by
    unfold bk
    split
    · rename_i hc
      by_cases e : q = k
      · subst e
        exact absurd ⟨hc.1, by omega, fun t h4 h5 => by rw [show t = q by omega]; exact hc.2⟩ h
      · rw [bk_no k _ (fun h6 => h ⟨h6.1, by omega, fun t h4 h5 => by
          by_cases e2 : t = k
          · rw [e2]; exact hc.2
          · exact h6.2.2 t h4 (by omega)⟩), nth_set_ne (fun e3 => e e3.symm)]
    · rfl
/-- A separator stands at place q, or behind white space from q on. -/
def SepK (cs : List Cl) (q k : Nat) : Prop := ∃ i, i < k ∧ (cat cs i = .B ∨ cat cs i = .S) ∧ q ≤ i ∧ AW cs q i
theorem l1K_at {cs : List Cl} {a : Int} {V : List Int} {q : Nat} : ∀ k, k ≤ V.length → (SepK cs q k → nth (l1K cs a V k) q = a) ∧ (¬ SepK cs q k → nth (l1K cs a V k) q = nth V q)
  | 0, _ => ⟨fun ⟨i, h, _⟩ => by omega, fun _ => rfl⟩
  | k + 1, hk => by
    obtain ⟨ih1, ih2⟩ := l1K_at (a := a) (V := V) k (by omega)
    have hl : k < (l1K cs a V k).length := by rw [l1K_length]; omega
    unfold l1K
    split
    · rename_i hc
      by_cases h : q < k ∧ AW cs q k
      · have e := bk_yes (a := a) (s := 0) k ((l1K cs a V k).set k a) (by rw [List.length_set]; omega) (Nat.zero_le q) h.1 h.2
        exact ⟨fun _ => e, fun hn => absurd ⟨k, by omega, hc, by omega, h.2⟩ hn⟩
      · rw [bk_no k _ (fun h6 => h h6.2)]
        by_cases e : q = k
        · subst e
          rw [nth_set_self hl]
          exact ⟨fun _ => rfl, fun hn => absurd ⟨q, by omega, hc, Nat.le_refl _, fun t h4 h5 => by omega⟩ hn⟩
        · rw [nth_set_ne (fun e3 => e e3.symm)]
          refine ⟨fun ⟨i, h1, h2, h3, h4⟩ => ?_, fun hn => ih2 fun ⟨i, h1, h2⟩ => hn ⟨i, by omega, h2⟩⟩
          by_cases ei : i = k
          · subst ei; exact absurd ⟨by omega, h4⟩ h
          · exact ih1 ⟨i, by omega, h2, h3, h4⟩
    · rename_i hc
      refine ⟨fun ⟨i, h1, h2, h3⟩ => ih1 ⟨i, ?_, h2, h3⟩, fun hn => ih2 fun ⟨i, h1, h2⟩ => hn ⟨i, by omega, h2⟩⟩
      by_cases ei : i = k
      · subst ei; exact absurd h2 hc
      · omega
end Go.Proofs.YtjahmnenfknjgaaGreatDoor
namespace Go.Proofs.YtjahmnenfknjgaaGreatDoor

/-! ### Turning round: what it keeps -/
theorem revAux_congr {P Q : Nat → Bool} : ∀ (l acc : List Nat), (∀ x, x ∈ l → P x = Q x) → revAux P acc l = revAux Q acc l
  | [], _, _ => rfl
  | x :: l, acc, h => by
    simp only [revAux, h x (by simp)]
    rw [revAux_congr l (x :: acc) fun y hy => h y (by simp [hy]), revAux_congr l [] fun y hy => h y (by simp [hy])]
theorem revB_congr {P Q : Nat → Bool} {l : List Nat} (h : ∀ x, x ∈ l → P x = Q x) : revB P l = revB Q l := revAux_congr l [] h
theorem revAux_none {P : Nat → Bool} : ∀ (l : List Nat), (∀ x, x ∈ l → P x = false) → revAux P [] l = l
  | [], _ => rfl
  | x :: l, h => by
    simp only [revAux, h x (by simp)]
    simp [revAux_none l fun y hy => h y (by simp [hy])]
theorem revB_none {P : Nat → Bool} {l : List Nat} (h : ∀ x, x ∈ l → P x = false) : revB P l = l := revAux_none l h
/-- A block ahead of what is next: what revAux gives of the block's turn. -/
theorem revB_rev_app {P : Nat → Bool} : ∀ (l acc : List Nat), (∀ x, x ∈ acc → P x = true) → revB P (revAux P acc l) = acc.reverse ++ l
  | [], acc, h => by rw [show revAux P acc [] = acc from rfl, revB_end h]; simp
  | x :: l, acc, h => by
    unfold revAux
    split
    · rename_i hx
      rw [revB_rev_app l (x :: acc) fun y hy => by rcases List.mem_cons.1 hy with e | e; (rw [e]; exact hx); exact h y e]
      simp
    · rename_i hx
      rw [revB_stop h (by simpa using hx), revB_rev_app l [] (by simp)]
      simp
theorem revB_twice (P : Nat → Bool) (l : List Nat) : revB P (revB P l) = l := by
  have := revB_rev_app (P := P) l [] (by simp)
  simpa [revB] using this
/-- A test that holds of whole blocks stays where it is. -/
theorem revAux_test {P Q : Nat → Bool} (hQ : ∀ x, P x = true → Q x = true) : ∀ (l acc : List Nat), (∀ x, x ∈ acc → P x = true) → (revAux P acc l).map Q = acc.map Q ++ l.map Q
  | [], acc, h => by simp [revAux]
  | x :: l, acc, h => by
    unfold revAux
    split
    · rename_i hx
      rw [revAux_test hQ l (x :: acc) fun y hy => by rcases List.mem_cons.1 hy with e | e; (rw [e]; exact hx); exact h y e]
      have e : ∀ m : List Nat, (∀ y, y ∈ m → P y = true) → m.map Q = List.replicate m.length true := fun m hm => by
        apply List.eq_replicate_iff.2
        refine ⟨by simp, fun b hb => ?_⟩
        obtain ⟨y, hy, rfl⟩ := List.mem_map.1 hb
        exact hQ y (hm y hy)
      rw [List.map_cons, hQ x hx, e acc h, List.map_cons, hQ x hx]
      rw [← List.replicate_succ, List.replicate_succ']; simp
    · rw [List.map_append, List.map_cons, revAux_test hQ l [] (by simp)]; simp
theorem revB_test {P Q : Nat → Bool} (hQ : ∀ x, P x = true → Q x = true) (l : List Nat) : (revB P l).map Q = l.map Q := by
  have := revAux_test hQ l [] (by simp)
  simpa [revB] using this
theorem geq_mono {lv : List Int} {u v : Int} (h : u ≤ v) {x : Nat} (hx : geq lv v x = true) : geq lv u x = true := by
  unfold geq at *
  have := of_decide_eq_true hx
  exact decide_eq_true (by omega)

/-! ### The package's order of a line -/
/-- At levels up to m, what stands at a place has the place's own test. -/
def Lvl (lv : List Int) (m : Int) (l : List Nat) : Prop := ∀ u : Int, u ≤ m → ∀ p, p < lv.length → geq lv u (nat l p) = geq lv u p
theorem map_nat {l : List Nat} {Q : Nat → Bool} {p : Nat} (h : p < l.length) : (l.map Q)[p]? = some (Q (nat l p)) := by
  rw [List.getElem?_map, List.getElem?_eq_getElem h, nat_eq h]; rfl
theorem Lvl.pass {lv : List Int} {m : Int} {l : List Nat} (hl : l.length = lv.length) (h : Lvl lv m l) : Lvl lv m (revB (geq lv m) l) := fun u hu p hp => by
  rw [← h u hu p hp]
  have h1 := revB_test (P := geq lv m) (Q := geq lv u) (fun x hx => geq_mono hu hx) l
  have h2 := congrArg (fun t => t[p]?) h1
  rw [map_nat (by rw [revB_length]; omega), map_nat (by omega)] at h2
  exact Option.some.inj h2
theorem Lvl.mono {lv : List Int} {m n : Int} {l : List Nat} (h : Lvl lv m l) (hn : n ≤ m) : Lvl lv n l := fun u hu p hp => h u (by omega) p hp
theorem nat_range {n p : Nat} (h : p < n) : nat (List.range n) p = p := by simp [nat, h]
theorem Lvl.start (lv : List Int) (m : Int) : Lvl lv m (List.range lv.length) := fun u _ p hp => by rw [nat_range hp]
def lowOdd (lv : List Int) : Nat → Int
  | 0 => 127
  | j + 1 => if nth lv j % 2 ≠ 0 ∧ nth lv j < lowOdd lv j then nth lv j else lowOdd lv j
theorem lowOdd_succ (lv : List Int) (j : Nat) : lowOdd lv (j + 1) = if nth lv j % 2 ≠ 0 ∧ nth lv j < lowOdd lv j then nth lv j else lowOdd lv j := rfl
/-- From level m down to level lo. -/
def goDn (lv : List Int) (lo : Int) : Nat → List Nat → List Nat
  | 0, l => l
  | m + 1, l => if lo ≤ ((m + 1 : Nat) : Int) then goDn lv lo m (revB (geq lv ((m + 1 : Nat) : Int)) l) else l
def goOrd (lv : List Int) : List Nat := goDn lv (lowOdd lv lv.length) (most lv lv.length).toNat (List.range lv.length)
theorem goDn_perm (lv : List Int) (lo : Int) : ∀ (m : Nat) (l : List Nat), (goDn lv lo m l).Perm l
  | 0, _ => .refl _
  | m + 1, l => by
    unfold goDn; split
    · exact (goDn_perm lv lo m _).trans (revB_perm _ _)
    · exact .refl _
theorem goOrd_perm (lv : List Int) : (goOrd lv).Perm (List.range lv.length) := goDn_perm _ _ _ _
theorem goOrd_length (lv : List Int) : (goOrd lv).length = lv.length := by rw [(goOrd_perm lv).length_eq]; simp
theorem lowOdd_odd (lv : List Int) : ∀ j, lowOdd lv j % 2 ≠ 0
  | 0 => by simp [lowOdd]
  | j + 1 => by
    rw [lowOdd_succ]; split
    · rename_i h; exact h.1
    · exact lowOdd_odd lv j
theorem lowOdd_le (lv : List Int) : ∀ j, lowOdd lv j ≤ 127 ∧ ∀ q, q < j → nth lv q % 2 ≠ 0 → nth lv q ≤ 127 → lowOdd lv j ≤ nth lv q
  | 0 => ⟨by simp [lowOdd], fun q h => by omega⟩
  | j + 1 => by
    obtain ⟨h1, h2⟩ := lowOdd_le lv j
    have step : lowOdd lv (j + 1) ≤ lowOdd lv j := by rw [lowOdd_succ]; split <;> omega
    refine ⟨by omega, fun q hq ho hm => ?_⟩
    by_cases e : q = j
    · subst e
      rw [lowOdd_succ]
      split
      · omega
      · rename_i h; by_cases hlt : nth lv q < lowOdd lv q
        · exact absurd ⟨ho, hlt⟩ h
        · omega
    · have := h2 q (by omega) ho hm; omega
theorem lowOdd_pos {lv : List Int} (h0 : ∀ q, q < lv.length → 0 ≤ nth lv q) : ∀ j, j ≤ lv.length → 1 ≤ lowOdd lv j
  | 0, _ => by simp [lowOdd]
  | j + 1, hj => by
    have ih := lowOdd_pos h0 j (by omega)
    have := h0 j (by omega)
    rw [lowOdd_succ]; split
    · rename_i h; have := h.1; omega
    · exact ih
theorem most_ge {lv : List Int} {q : Nat} : ∀ j, q < j → nth lv q ≤ most lv j
  | j + 1, h => by
    unfold most
    by_cases e : q = j
    · subst e; omega
    · have := most_ge (lv := lv) (q := q) j (by omega); omega
theorem most_in (lv : List Int) : ∀ j, most lv j = 0 ∨ ∃ q, q < j ∧ most lv j = nth lv q
  | 0 => .inl rfl
  | j + 1 => by
    unfold most
    by_cases h : most lv j ≤ nth lv j
    · exact .inr ⟨j, by omega, by omega⟩
    · rcases most_in lv j with e | ⟨q, hq, e⟩
      · exact .inl (by omega)
      · exact .inr ⟨q, by omega, by omega⟩
/-- Where no odd level occurs up to an even m, all turns cancel. -/
theorem down_even {lv : List Int} : ∀ (k : Nat) (l : List Nat), (∀ x, x ∈ l → ∀ i : Nat, i < k → nth lv x ≠ ((2 * i + 1 : Nat) : Int)) → down lv (2 * k) l = l
  | 0, _, _ => rfl
  | k + 1, l, h => by
    rw [show 2 * (k + 1) = (2 * k + 1) + 1 by omega]
    unfold down
    unfold down
    rw [revB_congr (P := geq lv ((2 * k + 1 : Nat) : Int)) (Q := geq lv ((2 * k + 1 + 1 : Nat) : Int)) fun x hx => ?_, revB_twice]
    · exact down_even k l fun x hx i hi => h x hx i (by omega)
    · have := h x ((revB_perm _ _).mem_iff.1 hx) k (by omega)
      unfold geq
      by_cases hle : ((2 * k + 1 : Nat) : Int) ≤ nth lv x
      · rw [decide_eq_true hle, decide_eq_true (by omega)]
      · rw [decide_eq_false hle, decide_eq_false (by omega)]
theorem goDn_down {lv : List Int} {lo : Nat} : ∀ (m : Nat) (l : List Nat), lo % 2 = 1 → (m < lo → m % 2 = 0) → (∀ x, x ∈ l → ∀ i : Nat, 2 * i + 1 < lo → nth lv x ≠ ((2 * i + 1 : Nat) : Int)) → goDn lv lo m l = down lv m l
  | 0, _, _, _, _ => rfl
  | m + 1, l, ho, he, h => by
    unfold goDn
    split
    · rename_i hlo
      have hlo2 : lo ≤ m + 1 := by omega
      unfold down
      exact goDn_down m _ ho (fun hm => by omega) fun x hx => h x ((revB_perm _ _).mem_iff.1 hx)
    · rename_i hlo
      have hlo2 : m + 1 < lo := by omega
      have hev := he hlo2
      rw [show m + 1 = 2 * ((m + 1) / 2) by omega, down_even _ _ fun x hx i hi => h x hx i (by omega)]
theorem goOrd_down {lv : List Int} (hr : ∀ q, q < lv.length → 0 ≤ nth lv q ∧ nth lv q ≤ 127) : goOrd lv = down lv (most lv lv.length).toNat (List.range lv.length) := by
  have hp := lowOdd_pos (fun q hq => (hr q hq).1) lv.length (Nat.le_refl _)
  have hodd := lowOdd_odd lv lv.length
  obtain ⟨lo, hlo⟩ : ∃ n : Nat, lowOdd lv lv.length = n := ⟨(lowOdd lv lv.length).toNat, by omega⟩
  have hle := (lowOdd_le lv lv.length).2
  have hno : ∀ x, x ∈ List.range lv.length → ∀ i : Nat, 2 * i + 1 < lo → nth lv x ≠ ((2 * i + 1 : Nat) : Int) := fun x hx i hi e => by
    have hx' : x < lv.length := by simpa using hx
    have := hle x hx' (by omega) (hr x hx').2
    omega
  unfold goOrd
  rw [hlo] at hodd ⊢
  refine goDn_down _ _ (by omega) (fun hm => ?_) hno
  have hmn := most_nonneg lv lv.length
  rcases most_in lv lv.length with e | ⟨q, hq, e⟩
  · rw [e]; rfl
  · by_cases hev : (most lv lv.length).toNat % 2 = 0
    · exact hev
    · exfalso
      refine hno q (by simpa using hq) ((most lv lv.length).toNat / 2) (by omega) ?_
      rw [← e]; omega

/-! ### Without the removed ones -/
inductive Ph where
  | non | cle | dir | bad
  deriving DecidableEq
/-- One more character: K says whether it is kept, P whether its level is great enough. -/
def dlt (K P : Nat → Bool) (s : Ph) (x : Nat) : Ph :=
  if P x then (if K x then (match s with | .non => .cle | .cle => .cle | .dir => .bad | .bad => .bad) else s)
  else (if K x then (match s with | .bad => .bad | _ => .non) else (match s with | .cle => .dir | t => t))
theorem dlt_bad (K P : Nat → Bool) : ∀ l : List Nat, l.foldl (dlt K P) .bad = .bad
  | [] => rfl
  | x :: l => by
    rw [List.foldl_cons]
    have : dlt K P .bad x = .bad := by unfold dlt; split <;> split <;> rfl
    rw [this]; exact dlt_bad K P l
theorem dlt_swap {K P : Nat → Bool} {s : Ph} {x y : Nat} (hx : P x = true) (hy : P y = true) : dlt K P (dlt K P s x) y = dlt K P (dlt K P s y) x := by
  unfold dlt
  rw [if_pos hx, if_pos hx, if_pos hy, if_pos hy]
  cases K x <;> cases K y <;> cases s <;> rfl
theorem dlt_last {K P : Nat → Bool} {x : Nat} (hx : P x = true) : ∀ (acc : List Nat) (s : Ph), (∀ y, y ∈ acc → P y = true) → acc.foldl (dlt K P) (dlt K P s x) = dlt K P (acc.foldl (dlt K P) s) x
  | [], _, _ => rfl
  | y :: acc, s, h => by
    rw [List.foldl_cons, List.foldl_cons, dlt_swap hx (h y (by simp))]
    exact dlt_last hx acc _ fun z hz => h z (by simp [hz])
/-- Turning round blocks of a narrower test leaves the phase. -/
theorem dlt_rev {K P Q : Nat → Bool} (hQ : ∀ x, P x = true → Q x = true) : ∀ (l acc : List Nat) (s : Ph), (∀ x, x ∈ acc → P x = true) → (revAux P acc l).foldl (dlt K Q) s = l.foldl (dlt K Q) (acc.foldl (dlt K Q) s)
  | [], _, _, _ => rfl
  | x :: l, acc, s, h => by
    unfold revAux
    split
    · rename_i hx
      rw [dlt_rev hQ l (x :: acc) s fun y hy => by rcases List.mem_cons.1 hy with e | e; (rw [e]; exact hx); exact h y e]
      rw [List.foldl_cons, List.foldl_cons, dlt_last (hQ x hx) acc s fun y hy => hQ y (h y hy)]
    · rw [List.foldl_append, List.foldl_cons, List.foldl_cons, dlt_rev hQ l [] _ (by simp)]; rfl
/-- Behind a removed one that is too low, the next kept one is too low as well. -/
theorem dir_head {K P : Nat → Bool} {l : List Nat} : ∀ (l : List Nat), l.foldl (dlt K P) .dir ≠ .bad → ∀ x m, l.filter K = x :: m → P x = false
  | [], _, x, m, h => by cases h
  | y :: l, hb, x, m, h => by
    rw [List.foldl_cons] at hb
    cases hk : K y with
    | true =>
      rw [List.filter_cons_of_pos hk] at h
      obtain ⟨rfl, _⟩ := List.cons.inj h
      cases hp : P y with
      | false => rfl
      | true =>
        exfalso; apply hb
        have : dlt K P .dir y = .bad := by unfold dlt; rw [if_pos hp, if_pos hk]
        rw [this]; exact dlt_bad K P l
    | false =>
      rw [List.filter_cons_of_neg (by simp [hk])] at h
      have : dlt K P .dir y = .dir := by unfold dlt; rw [hk]; cases P y <;> rfl
      rw [this] at hb
      exact dir_head (l := l) l hb x m h
theorem revAux_flush {P : Nat → Bool} {acc l : List Nat} (h : ∀ x m, l = x :: m → P x = false) : revAux P acc l = acc ++ revAux P [] l := by
  cases l with
  | nil => simp [revAux]
  | cons x m => simp [revAux, h x m rfl]
/-- Leaving out what is removed, ahead of a turn or behind it. -/
theorem filter_rev {K P : Nat → Bool} : ∀ (l acc : List Nat) (s : Ph), (∀ x, x ∈ acc → P x = true) → (acc.filter K ≠ [] → s = .cle) → l.foldl (dlt K P) s ≠ .bad → (revAux P acc l).filter K = revAux P (acc.filter K) (l.filter K)
  | [], _, _, _, _, _ => rfl
  | x :: l, acc, s, ha, hs, hb => by
    rw [List.foldl_cons] at hb
    cases hp : P x with
    | true =>
      have ha2 : ∀ y, y ∈ x :: acc → P y = true := fun y hy => by rcases List.mem_cons.1 hy with e | e; (rw [e]; exact hp); exact ha y e
      cases hk : K x with
      | true =>
        have e1 : revAux P acc (x :: l) = revAux P (x :: acc) l := by simp [revAux, hp]
        rw [e1, List.filter_cons_of_pos hk]
        have e2 : revAux P (acc.filter K) (x :: l.filter K) = revAux P (x :: acc.filter K) (l.filter K) := by simp [revAux, hp]
        rw [e2, filter_rev l (x :: acc) (dlt K P s x) ha2 (fun _ => ?_) hb, List.filter_cons_of_pos hk]
        have : dlt K P s x = .cle ∨ dlt K P s x = .bad := by unfold dlt; rw [if_pos hp, if_pos hk]; cases s <;> simp
        rcases this with e | e
        · exact e
        · exfalso; apply hb; rw [e]; exact dlt_bad K P l
      | false =>
        have e1 : revAux P acc (x :: l) = revAux P (x :: acc) l := by simp [revAux, hp]
        have e3 : dlt K P s x = s := by unfold dlt; rw [if_pos hp, if_neg (by simp [hk])]
        rw [e3] at hb
        rw [e1, List.filter_cons_of_neg (by simp [hk]), filter_rev l (x :: acc) s ha2 (by rw [List.filter_cons_of_neg (by simp [hk])]; exact hs) hb, List.filter_cons_of_neg (by simp [hk])]
    | false =>
      have e1 : revAux P acc (x :: l) = acc ++ x :: revAux P [] l := by simp [revAux, hp]
      rw [e1, List.filter_append]
      cases hk : K x with
      | true =>
        rw [List.filter_cons_of_pos hk, List.filter_cons_of_pos hk, filter_rev l [] _ (by simp) (by simp) hb]
        simp [revAux, hp]
      | false =>
        rw [List.filter_cons_of_neg (by simp [hk]), List.filter_cons_of_neg (by simp [hk]), filter_rev l [] _ (by simp) (by simp) hb]
        by_cases he : acc.filter K = []
        · rw [he]; rfl
        · have e3 : dlt K P s x = .dir := by rw [hs he]; unfold dlt; rw [if_neg (by simp [hp]), if_neg (by simp [hk])]
          rw [e3] at hb
          rw [revAux_flush (acc := acc.filter K) (dir_head (l := l) l hb)]; simp
theorem filter_down {G : List Int} {K : Nat → Bool} : ∀ (m : Nat) (l : List Nat), (∀ u : Int, u ≤ m → l.foldl (dlt K (geq G u)) .non ≠ .bad) → (down G m l).filter K = down G m (l.filter K)
  | 0, _, _ => rfl
  | m + 1, l, h => by
    unfold down
    rw [filter_down m _ fun u hu => ?_]
    · congr 1
      exact filter_rev l [] .non (by simp) (by simp) (h _ (Int.le_refl _))
    · have := dlt_rev (K := K) (P := geq G ((m + 1 : Nat) : Int)) (Q := geq G u) (fun x hx => geq_mono (by omega) hx) l [] .non (by simp)
      unfold revB
      rw [this]; exact h u (by omega)
/-- Between two kept neighbours no removed one is lower than both. -/
def Betw (G W : List Int) : Prop := ∀ x y z, x < z → z < y → y < W.length → nth W x ≠ -1 → nth W y ≠ -1 → (∀ t, x < t → t < y → nth W t = -1) → nth G x ≤ nth G z ∨ nth G y ≤ nth G z
def kpt (W : List Int) (q : Nat) : Bool := nth W q != -1
theorem kpt_yes {W : List Int} {q : Nat} : kpt W q = true ↔ nth W q ≠ -1 := by simp [kpt]
theorem kpt_no {W : List Int} {q : Nat} : kpt W q = false ↔ nth W q = -1 := by simp [kpt]
theorem betw_fold {G W : List Int} (h : Betw G W) (u : Int) : ∀ k, k ≤ W.length → (List.range k).foldl (dlt (kpt W) (geq G u)) .non ≠ .bad ∧
    ((List.range k).foldl (dlt (kpt W) (geq G u)) .non = .cle ∨ (List.range k).foldl (dlt (kpt W) (geq G u)) .non = .dir → ∃ x, x < k ∧ nth W x ≠ -1 ∧ u ≤ nth G x ∧ (∀ t, x < t → t < k → nth W t = -1) ∧
      ((List.range k).foldl (dlt (kpt W) (geq G u)) .non = .dir → ∃ z, x < z ∧ z < k ∧ nth G z < u))
  | 0, _ => ⟨by simp, fun h => by simp at h⟩
  | k + 1, hk => by
    obtain ⟨h1, h2⟩ := betw_fold h u k (by omega)
    have hst : (List.range (k + 1)).foldl (dlt (kpt W) (geq G u)) .non = dlt (kpt W) (geq G u) ((List.range k).foldl (dlt (kpt W) (geq G u)) .non) k := by
      rw [List.range_succ, List.foldl_append]; rfl
    rw [hst]
    clear hst
    generalize (List.range k).foldl (dlt (kpt W) (geq G u)) .non = s at *
    cases hp : geq G u k with
    | true =>
      have hge : u ≤ nth G k := by simpa [geq] using hp
      cases hK : kpt W k with
      | true =>
        have hkk := kpt_yes.1 hK
        have e : dlt (kpt W) (geq G u) s k = .cle := by
          unfold dlt; rw [if_pos hp, if_pos hK]
          cases s with
          | non => rfl
          | cle => rfl
          | bad => exact absurd rfl h1
          | dir =>
            exfalso
            obtain ⟨x, x1, x2, x3, x4, x5⟩ := h2 (.inr rfl)
            obtain ⟨z, z1, z2, z3⟩ := x5 rfl
            rcases h x k z z1 z2 (by omega) x2 hkk x4 with e | e <;> omega
        rw [e]
        exact ⟨by simp, fun _ => ⟨k, by omega, hkk, hge, fun t h3 h4 => by omega, fun h3 => by cases h3⟩⟩
      | false =>
        have e : dlt (kpt W) (geq G u) s k = s := by unfold dlt; rw [if_pos hp, if_neg (by simp [hK])]
        rw [e]
        refine ⟨h1, fun h3 => ?_⟩
        obtain ⟨x, x1, x2, x3, x4, x5⟩ := h2 h3
        refine ⟨x, by omega, x2, x3, fun t h4 h5 => ?_, fun h6 => ?_⟩
        · by_cases et : t = k
          · rw [et]; exact kpt_no.1 hK
          · exact x4 t h4 (by omega)
        · obtain ⟨z, z1, z2, z3⟩ := x5 h6
          exact ⟨z, z1, by omega, z3⟩
    | false =>
      have hlt : nth G k < u := by have : ¬ u ≤ nth G k := by simpa [geq] using hp
                                   omega
      cases hK : kpt W k with
      | true =>
        have e : dlt (kpt W) (geq G u) s k = .non := by
          unfold dlt; rw [if_neg (by simp [hp]), if_pos hK]
          cases s with
          | bad => exact absurd rfl h1
          | _ => rfl
        rw [e]; exact ⟨by simp, fun h3 => by simp at h3⟩
      | false =>
        have hkk := kpt_no.1 hK
        have key : dlt (kpt W) (geq G u) s k ≠ .bad ∧ (dlt (kpt W) (geq G u) s k = .cle ∨ dlt (kpt W) (geq G u) s k = .dir → s = .cle ∨ s = .dir) := by
          unfold dlt; rw [if_neg (by simp [hp]), if_neg (by simp [hK])]
          cases s with
          | bad => exact absurd rfl h1
          | _ => simp
        refine ⟨key.1, fun h3 => ?_⟩
        obtain ⟨x, x1, x2, x3, x4, x5⟩ := h2 (key.2 h3)
        refine ⟨x, by omega, x2, x3, fun t h4 h5 => ?_, fun _ => ⟨k, x1, by omega, hlt⟩⟩
        by_cases et : t = k
        · rw [et]; exact hkk
        · exact x4 t h4 (by omega)
theorem down_congr {G W : List Int} : ∀ (m : Nat) (l : List Nat), (∀ x, x ∈ l → nth G x = nth W x) → down G m l = down W m l
  | 0, _, _ => rfl
  | m + 1, l, h => by
    unfold down
    rw [revB_congr (P := geq G ((m + 1 : Nat) : Int)) (Q := geq W ((m + 1 : Nat) : Int)) fun x hx => by unfold geq; rw [h x hx]]
    exact down_congr m _ fun x hx => h x ((revB_perm _ _).mem_iff.1 hx)
theorem down_top {W : List Int} {k : Nat} {l : List Nat} (h : ∀ x, x ∈ l → nth W x ≤ k) : ∀ m, k ≤ m → down W m l = down W k l
  | 0, hm => by obtain rfl : k = 0 := by omega
                rfl
  | m + 1, hm => by
    by_cases e : k = m + 1
    · rw [e]
    · show down W m (revB (geq W ((m + 1 : Nat) : Int)) l) = _
      rw [revB_none fun x hx => by have := h x hx; unfold geq; exact decide_eq_false (by omega)]
      exact down_top h m (by omega)
/-- One line: the package's order, without the removed ones, is the set's. -/
theorem order_eq {G W : List Int} (hl : G.length = W.length) (hr : ∀ q, q < G.length → 0 ≤ nth G q ∧ nth G q ≤ 127) (hW : ∀ q, q < G.length → nth W q ≠ -1 → nth W q = nth G q) (hb : Betw G W) : wout (goOrd G) W = visual W := by
  rw [goOrd_down hr]
  unfold wout visual
  have e1 := filter_down (G := G) (K := kpt W) (most G G.length).toNat (List.range G.length) fun u _ => by
    rw [hl]; exact (betw_fold hb u _ (Nat.le_refl _)).1
  have e2 : (List.range G.length).filter (kpt W) = kept W W.length := by rw [hl]; rfl
  rw [e2] at e1
  have e3 : ((down G (most G G.length).toNat (List.range G.length)).filter fun q => nth W q != -1) = (down G (most G G.length).toNat (List.range G.length)).filter (kpt W) := rfl
  rw [e3, e1]
  have hmem : ∀ x, x ∈ kept W W.length → x < W.length ∧ nth W x ≠ -1 := fun x hx => by
    have := List.mem_filter.1 hx
    exact ⟨by simpa using this.1, by simpa using this.2⟩
  rw [down_congr (G := G) (W := W) _ _ fun x hx => (hW x (by rw [hl]; exact (hmem x hx).1) (hmem x hx).2).symm]
  refine down_top (fun x hx => ?_) _ ?_
  · have := most_ge (lv := W) (q := x) W.length (hmem x hx).1
    have := most_nonneg W W.length
    omega
  · have h1 := most_nonneg G G.length
    rcases most_in W W.length with e | ⟨q, hq, e⟩
    · omega
    · by_cases hq1 : nth W q = -1
      · omega
      · have h2 := hW q (by omega) hq1
        have h3 := most_ge (lv := G) (q := q) G.length (by omega)
        omega
/-- All lines. -/
def goLn (lv : List Int) (bs : List Int) : Nat → List Nat
  | 0 => []
  | j + 1 => goLn lv bs j ++ (goOrd (part lv (bkl bs j).toNat (nth bs j).toNat)).map ((bkl bs j).toNat + ·)
theorem goLn_length {lv : List Int} {bs : List Int} (h : BkP bs lv.length) : ∀ j, j ≤ bs.length → (goLn lv bs j).length = (bkl bs j).toNat
  | 0, _ => by simp [goLn, bkl]
  | j + 1, hj => by
    have ih := goLn_length h j (by omega)
    have h1 := bkl_range h j (by omega)
    have h2 := h.2.1 j (by omega)
    unfold goLn; rw [List.length_append, List.length_map, ih, goOrd_length, part_length (by omega), bkl_succ]; omega
theorem lines_eq {G W : List Int} {bs : List Int} (hl : G.length = W.length) (h : BkP bs G.length) (hr : ∀ q, q < G.length → 0 ≤ nth G q ∧ nth G q ≤ 127) (hW : ∀ q, q < G.length → nth W q ≠ -1 → nth W q = nth G q)
    (hb : ∀ j, j < bs.length → Betw (part G (bkl bs j).toNat (nth bs j).toNat) (part W (bkl bs j).toNat (nth bs j).toNat)) : ∀ j, j ≤ bs.length → wout (goLn G bs j) W = lineOr W bs j
  | 0, _ => rfl
  | j + 1, hj => by
    have ih := lines_eq hl h hr hW hb j (by omega)
    have h1 := bkl_range h j (by omega)
    have h2 := h.2.1 j (by omega)
    unfold goLn lineOr
    have happ : ∀ a b : List Nat, wout (a ++ b) W = wout a W ++ wout b W := fun a b => by unfold wout; rw [List.filter_append]
    rw [happ, ih]
    congr 1
    have hte : (nth bs j).toNat ≤ G.length := by omega
    have hpl := part_length (lv := G) (fr := (bkl bs j).toNat) hte
    have hpl2 := part_length (lv := W) (fr := (bkl bs j).toNat) (te := (nth bs j).toNat) (by omega)
    rw [← order_eq (by rw [hpl, hpl2]) (fun q hq => ?_) (fun q hq hn => ?_) (hb j (by omega))]
    · unfold wout
      rw [List.filter_map]
      congr 1
      refine List.filter_congr fun x hx => ?_
      have hx2 := (goOrd_perm _).mem_iff.1 hx
      rw [hpl] at hx2
      have hx3 : x < (nth bs j).toNat - (bkl bs j).toNat := by simpa using hx2
      show (nth W ((bkl bs j).toNat + x) != -1) = _
      rw [part_nth (by omega) hx3]
    · rw [hpl] at hq; rw [part_nth hte hq]; exact hr _ (by omega)
    · rw [hpl] at hq
      rw [part_nth (by omega) hq] at hn ⊢
      rw [part_nth hte hq]; exact hW _ (by omega) hn
end Go.Proofs.YtjahmnenfknjgaaGreatDoor
namespace Go.Proofs.YtjahmnenfknjgaaGreatDoor
open Go.RowKit

set_option maxHeartbeats 4000000 in
set_option maxRecDepth 100000 in
theorem areBreaks_any (A : Option Addr) (c : Nat) (bs : List Int) (n : Nat) (w : World) (hr : Rd w A (nums .i64 bs)) (hm : bs.length ≤ 2147483647) (hn : n ≤ 2147483647) :
    Calls Tryz.prog 21 #[.slice A bs.length c, .int .i64 n] w fun e w' => SaysB (BkP bs n) e ∧ w = w' := by
  go_enter Tryz.func21, Tryz.ntmps21
  go_wp2
  go_loopg [5, 10] (bs.length + 1) (fun k l i wr => ∃ (j : Nat), i = .int .i64 j ∧ j ≤ bs.length ∧ l = .int .i64 (bkl bs j) ∧ wr = w ∧ Hid (∀ q, q < j → bkl bs q < nth bs q ∧ nth bs q ≤ n) ∧ Hid (bs.length + 1 - j ≤ k))
  case atStart => exact ⟨0, rfl, by omega, rfl, rfl, fun q hq => by omega, Nat.le_refl _⟩
  case round =>
    obtain ⟨j, rfl, hj, rfl, rfl, HQ, hk⟩ := hrel
    by_cases hlt : j < bs.length
    · obtain ⟨g, o, rfl, hc⟩ := hr.num j hlt
      have HB := Lib.hid (bkl_succ bs j)
      by_cases h1 : bkl bs j < nth bs j
      · by_cases h2 : nth bs j ≤ (n : Int)
        · have HQ2 : Hid (∀ q, q < j + 1 → bkl bs q < nth bs q ∧ nth bs q ≤ n) := fun q hq => by
            by_cases e : q = j
            · subst e; exact ⟨h1, h2⟩
            · exact HQ.out q (by omega)
          generalize nth bs j = x at *
          generalize bkl bs j = y at *
          go_wp2
          go_roundg (bs.length + 1 - (j + 1))
          case measure => have := hk.out; omega
          case rel => exact ⟨j + 1, by go_num, by omega, by rw [HB.out], rfl, HQ2, Nat.le_refl _⟩
        · have HN : Hid (¬ BkP bs n) := fun h => h2 (h.2.1 j hlt).2
          generalize nth bs j = x at *
          generalize bkl bs j = y at *
          go_wp2
          go_ret
          exact ⟨⟨false, rfl, by simp [HN.out]⟩, rfl⟩
      · have HN : Hid (¬ BkP bs n) := fun h => h1 (h.2.1 j hlt).1
        generalize nth bs j = x at *
        generalize bkl bs j = y at *
        go_wp2
        go_ret
        exact ⟨⟨false, rfl, by simp [HN.out]⟩, rfl⟩
    · obtain rfl : j = bs.length := by omega
      have HP : Hid (BkP bs n ↔ (0 < bs.length ∧ bkl bs bs.length = n)) := ⟨fun h => ⟨h.1, h.2.2⟩, fun h => ⟨h.1, HQ.out, h.2⟩⟩
      generalize bkl bs bs.length = y at *
      by_cases h1 : 0 < bs.length
      · go_wp2
        go_ret
        exact ⟨⟨_, rfl, by rw [HP.out]; simp [h1]⟩, rfl⟩
      · have h2 : (bs.length : Int) = 0 := by omega
        go_wp2
        go_ret
        exact ⟨⟨false, rfl, by rw [HP.out]; simp; omega⟩, rfl⟩

set_option maxHeartbeats 4000000 in
set_option maxRecDepth 100000 in
theorem without_any (A1 A2 : Option Addr) (c1 c2 : Nat) (ps : List Nat) (lv : List Int) (w : World) (h1 : Rd w A1 (nums .i64 (nats ps))) (h2 : Rd w A2 (nums .i64 lv)) (hin : ∀ j, j < ps.length → nat ps j < lv.length) (m1 : ps.length ≤ 2147483647) (m2 : lv.length ≤ 2147483647) :
    Calls Tryz.prog 24 #[.slice A1 ps.length c1, .slice A2 lv.length c2] w (RetRow w 3 (wout ps lv).length (nums .i64 (nats (wout ps lv)))) := by
  obtain ⟨i0, hi', hz0, hz1, hz2⟩ := info_parts info3
  have HIN := Lib.hid hin
  clear hin
  have hown0 := World.ownsRow_lit (base := w.heap.size) (e := 3) (size := 1) w #[] 0 (Nat.le_refl _) (by decide) rfl
  go_enter Tryz.func24, Tryz.ntmps24
  go_wp2
  go_loopg [5, 11] (ps.length + 1) (fun k o i wr => ∃ (j g cap : Nat), i = .int .i64 j ∧ j ≤ ps.length ∧ o = .slice (some ⟨g, 0, none⟩) (wout (ps.take j) lv).length cap ∧ wr.ownsRow w.heap.size 3 1 (.slice (some ⟨g, 0, none⟩) (wout (ps.take j) lv).length cap) (wout (ps.take j) lv).length (nums .i64 (nats (wout (ps.take j) lv))) ∧ Upd [] w wr ∧ Hid (ps.length + 1 - j ≤ k))
  case atStart => exact ⟨0, w.heap.size, 0, rfl, by omega, rfl, hown0, (Upd.refl _ _).alloc _, Nat.le_refl _⟩
  case round =>
    obtain ⟨j, g, cap, rfl, hj, rfl, hown, hu, hk⟩ := hrel
    by_cases hlt : j < ps.length
    · obtain ⟨ga, oa, rfl, hc⟩ := (h1.keep hu).num j (by simp [nats]; exact hlt)
      rw [nth_nats hlt] at hc
      have hp := HIN.out j hlt
      obtain ⟨gb, ob, rfl, hd⟩ := (h2.keep hu).num (nat ps j) hp
      have hsz := hu.size
      have hgw := hown.lt g rfl
      have hwl := wout_len (ps.take j) lv
      rw [List.length_take] at hwl
      by_cases hx : nth lv (nat ps j) = -1
      · have b1 : (nth lv (nat ps j) != -1) = false := by simpa using hx
        have HW := Lib.hid (wout_no hlt hx)
        clear hx
        generalize nth lv (nat ps j) = x at *
        generalize nat ps j = p at *
        go_wp2
        go_roundg (ps.length + 1 - (j + 1))
        case measure => have := hk.out; omega
        case rel => exact ⟨j + 1, g, cap, by go_num, by omega, by rw [HW.out], by rw [HW.out]; exact hown, hu, Nat.le_refl _⟩
      · have b1 : (nth lv (nat ps j) != -1) = true := by simpa using hx
        have HW := Lib.hid (wout_yes hlt hx)
        clear hx
        generalize nth lv (nat ps j) = x at *
        generalize nat ps j = p at *
        go_wp2_with (at_builtin; go_must (refine wpList_append_two _ rfl (.tmp 29) (.tmp 31) 22 rfl w.heap.size 3 i0 (.int .i64 0) 1 8 Tryz.underlying22 hi' hz0 hz1 hz2 rfl (by decide) g (wout (ps.take j) lv).length cap _ rfl (hown.alloc _) ⟨wr.heap.size, 0, none⟩ 1 1 [.int .i64 p] rfl rfl (one_at _ _ rfl _ _) (one_int _ _) (by unfold maxLen; omega) (by omega) (by simp; omega) ?_); intro g' c' w2 hown2 hgrow2 hg2)
        go_roundg (ps.length + 1 - (j + 1))
        case measure => have := hk.out; omega
        case rel => exact ⟨j + 1, g', c', by go_num, by omega, by rw [HW.out]; simp, by rw [HW.out]; simpa [nats, nums] using hown2, (hu.alloc _).grown hgrow2 (fun k e => by cases e; exact .inr hgw.1), Nat.le_refl _⟩
    · obtain rfl : j = ps.length := by omega
      rw [List.take_length] at hown
      have hgw := hown.lt g rfl
      have hfin := Row.of_owns hown
      simp only [List.take_length]
      go_wp2
      go_ret
      exact ⟨g, cap, rfl, hgw.1, hfin, hu⟩
end Go.Proofs.YtjahmnenfknjgaaGreatDoor
namespace Go.Proofs.YtjahmnenfknjgaaGreatDoor
open Go.RowKit

set_option maxHeartbeats 4000000 in
set_option maxRecDepth 100000 in
theorem ofLine_any (A1 A2 : Option Addr) (c1 c2 : Nat) (cs : List Cl) (lv : List Int) (base : Int) (fr te : Nat) (w : World) (h1 : Rd w A1 (nums .i64 (clsI cs))) (h2 : Rd w A2 (nums .i64 lv)) (hl : lv.length = cs.length) (hft : fr < te) (hto : te ≤ cs.length) (hcap : lv.length ≤ c2) (hm : cs.length ≤ 2147483647) :
    Calls Tryz.prog 56 #[.slice A1 cs.length c1, .slice A2 cs.length c2, .int .i64 base, .int .i64 fr, .int .i64 te] w (RetRow w 3 (te - fr) (nums .i64 (ofLine cs lv base fr te))) := by
  obtain ⟨i0, hi', hz0, hz1, hz2⟩ := info_parts info3
  obtain ⟨g2, o2, rfl, hd⟩ := h2.some (by rw [nums_length]; omega)
  have hcap2 : (te : Int) ≤ c2 := by omega
  go_enter Tryz.func56, Tryz.ntmps56
  have hnews : ∀ j u, (nums .i64 ((lv.drop fr).take (te - fr)))[j]? = some u → (w.alloc (.cells #[] 3)).cell? ((⟨g2, o2 + fr, none⟩ : Addr).add j) = some u := by
    intro j u hj
    have hjl : j < te - fr := by
      have := (List.getElem?_eq_some_iff.1 hj).1; simp [nums] at this; omega
    have h9 : (nums .i64 lv)[fr + j]? = some u := by
      simp only [nums, List.map_take, List.map_drop, List.getElem?_take, List.getElem?_drop, hjl, if_true] at hj
      exact hj
    have := hd (fr + j) u h9
    have hlt := World.block_lt_of_cell? w _ this
    have e : (⟨g2, o2 + fr, none⟩ : Addr).add j = ⟨g2, o2 + (fr + j), none⟩ := by
      simp only [Addr.add]; split
      · rename_i h; subst h; rfl
      · simp <;> omega
    rw [e, World.cell?_alloc_lt]
    · exact this
    · exact hlt
  have hnl : (nums .i64 ((lv.drop fr).take (te - fr))).length = te - fr := by simp [nums]; omega
  go_wp2_with (at_builtin; go_must (refine wpList_append_two _ rfl (.tmp 15) (.tmp 19) 22 rfl w.heap.size 3 i0 (.int .i64 0) 1 8 Tryz.underlying22 hi' hz0 hz1 hz2 rfl (by decide) w.heap.size 0 0 [] rfl (World.ownsRow_lit (base := w.heap.size) (e := 3) (size := 1) w #[] 0 (Nat.le_refl _) (by decide) rfl) ⟨g2, o2 + fr, none⟩ (te - fr) (c2 - fr) (nums .i64 ((lv.drop fr).take (te - fr))) rfl (by rw [hnl]; omega) hnews (nums_one _ _) (by unfold maxLen; omega) (by omega) (by simp) ?_); intro g3 k3 w2 hown2 hgrow2 hg3)
  have hu2 : Upd [] w w2 := ((Upd.refl _ _).alloc _).grown hgrow2 (fun k e => by cases e; exact .inr (Nat.le_refl _))
  have hr2 : Row w2 g3 3 (nums .i64 (olP cs lv base fr te (te - te))) := by
    rw [Nat.sub_self, olP_zero (by omega)]
    have := Row.of_owns hown2; simpa using this
  have hg3w := (hown2.lt g3 rfl).1
  clear hown2 hgrow2 hg3 hnews hnl hd
  go_loopg [12, 13] (te + 1) (fun k e i wr => ∃ (p : Nat), i = .int .i64 ((p : Int) - 1) ∧ fr ≤ p ∧ p ≤ te ∧ e = .bool (endS cs te (te - p)) ∧ Row wr g3 3 (nums .i64 (olP cs lv base fr te (te - p))) ∧ Upd [] w wr ∧ Hid (p ≤ k))
  case atStart => exact ⟨te, rfl, by omega, Nat.le_refl _, by rw [Nat.sub_self]; rfl, hr2, hu2, by show _ ≤ _; omega⟩
  case round =>
    clear hr2 hu2
    obtain ⟨p, rfl, hp1, hp2, rfl, hrow, hu, hk⟩ := hrel
    by_cases hlt : fr < p
    · obtain ⟨q, rfl⟩ : ∃ q, p = q + 1 := ⟨p - 1, by omega⟩
      rw [show ((q + 1 : Nat) : Int) - 1 = (q : Int) by omega] at *
      obtain ⟨ga, oa, rfl, hcc⟩ := (h1.keep hu).num q (by simp [clsI]; omega)
      rw [nth_clsI (by omega)] at hcc
      have hqf : (q : Int) - fr = ((q - fr : Nat) : Int) := by omega
      have hic : q - fr < te - fr := by omega
      have hce := hrow.num (q - fr) (by rw [olP_length]; omega)
      have hfz := hrow.free (q - fr)
      have hp1' : fr ≤ q := by omega
      have SP := Lib.hid (fun w => isSpace_any (cat cs q) w)
      have RM := Lib.hid (fun w => isRem_any (cat cs q) w)
      have HBB : Hid (∀ d, (cat cs q).e1 = d → True) := fun _ _ => trivial
      have bb : ((cat cs q).e1 == 7) = decide (cat cs q = .B) := Cl.e1_beq (cat cs q) .B
      have bs : ((cat cs q).e1 == 8) = decide (cat cs q = .S) := Cl.e1_beq (cat cs q) .S
      have OB := Lib.hid (fun hk => ol_base (cs := cs) (lv := lv) (base := base) (fr := fr) (te := te) (q := q) hp1' (by omega) hk)
      have OK := Lib.hid (fun hk => ol_keep (cs := cs) (lv := lv) (base := base) (fr := fr) (te := te) (q := q) hp1' (by omega) hk)
      have ET := Lib.hid (fun hk => en_true (cs := cs) (te := te) (q := q) (by omega) hk)
      have EE := Lib.hid (fun hk => en_else (cs := cs) (te := te) (q := q) (by omega) hk)
      generalize hz : nth (olP cs lv base fr te (te - (q + 1))) (q - fr) = z at *
      clear hz
      by_cases kB : cat cs q = .B
      · have HE := Lib.hid (ET.out (.inl kB))
        have HO := Lib.hid (OB.out (.inl kB))
        rw [decide_eq_true kB] at bb
        clear kB bs OB OK ET EE
        generalize (cat cs q).e1 = x at *
        go_wp2_with (first | (go_at_call 89; refine (SP.out _).mono ?_; rintro e w' ⟨rfl, rfl⟩) | (go_at_call 62; refine (RM.out _).mono ?_; rintro e w' ⟨rfl, rfl⟩))
        go_roundg q
        case measure => have := hk.out; omega
        case rel => exact ⟨q, by go_num, hp1', by omega, by rw [HE.out], by rw [← HO.out]; exact hrow.setNum (q - fr) base (by rw [olP_length]; omega), hu.setCell (p := ⟨g3, q - fr, none⟩) (.inr hg3w) _, Nat.le_refl _⟩
      · rw [decide_eq_false kB] at bb
        by_cases kS : cat cs q = .S
        · have HE := Lib.hid (ET.out (.inr (.inl kS)))
          have HO := Lib.hid (OB.out (.inr (.inl kS)))
          rw [decide_eq_true kS] at bs
          clear kB kS OB OK ET EE
          generalize (cat cs q).e1 = x at *
          go_wp2_with (first | (go_at_call 89; refine (SP.out _).mono ?_; rintro e w' ⟨rfl, rfl⟩) | (go_at_call 62; refine (RM.out _).mono ?_; rintro e w' ⟨rfl, rfl⟩))
          go_roundg q
          case measure => have := hk.out; omega
          case rel => exact ⟨q, by go_num, hp1', by omega, by rw [HE.out], by rw [← HO.out]; exact hrow.setNum (q - fr) base (by rw [olP_length]; omega), hu.setCell (p := ⟨g3, q - fr, none⟩) (.inr hg3w) _, Nat.le_refl _⟩
        · rw [decide_eq_false kS] at bs
          cases he : endS cs te (te - (q + 1)) with
          | true =>
            cases hsp : isSp (cat cs q) with
            | true =>
              have HE := Lib.hid (ET.out (.inr (.inr (by rw [hsp, he]; rfl))))
              have HO := Lib.hid (OB.out (.inr (.inr (by rw [hsp, he]; rfl))))
              have SP2 := SP.out
              simp only [show ((cat cs q == .WS) || (cat cs q).isInit || (cat cs q == .PDI)) = true from hsp] at SP2
              clear SP
              have SP := Lib.hid SP2
              clear SP2 kB kS OB OK ET EE hsp he
              generalize (cat cs q).e1 = x at *
              go_wp2_with (first | (go_at_call 89; refine (SP.out _).mono ?_; rintro e w' ⟨rfl, rfl⟩) | (go_at_call 62; refine (RM.out _).mono ?_; rintro e w' ⟨rfl, rfl⟩))
              go_roundg q
              case measure => have := hk.out; omega
              case rel => exact ⟨q, by go_num, hp1', by omega, by rw [HE.out], by rw [← HO.out]; exact hrow.setNum (q - fr) base (by rw [olP_length]; omega), hu.setCell (p := ⟨g3, q - fr, none⟩) (.inr hg3w) _, Nat.le_refl _⟩
            | false =>
              have hK : ¬ OlK cs te q := fun h => by
                rcases h with h | h | h
                · exact kB h
                · exact kS h
                · rw [hsp] at h; simp at h
              have HO := Lib.hid (OK.out hK)
              have HE0 := Lib.hid (EE.out hK)
              have SP2 := SP.out
              simp only [show ((cat cs q == .WS) || (cat cs q).isInit || (cat cs q == .PDI)) = false from hsp] at SP2
              clear SP
              have SP := Lib.hid SP2
              cases hrm : (cat cs q).isRem with
              | true =>
                have RM2 := RM.out
                rw [hrm] at RM2
                have HE : Hid (endS cs te (te - q) = true) := by show _ = _; rw [HE0.out, hrm, he]; rfl
                clear RM
                have RM := Lib.hid RM2
                clear SP2 RM2 kB kS OB OK ET EE hsp he hrm hK
                generalize (cat cs q).e1 = x at *
                go_wp2_with (first | (go_at_call 89; refine (SP.out _).mono ?_; rintro e w' ⟨rfl, rfl⟩) | (go_at_call 62; refine (RM.out _).mono ?_; rintro e w' ⟨rfl, rfl⟩))
                go_roundg q
                case measure => have := hk.out; omega
                case rel => exact ⟨q, by go_num, hp1', by omega, by rw [HE.out], by rw [← HO.out]; exact hrow, hu, Nat.le_refl _⟩
              | false =>
                have RM2 := RM.out
                rw [hrm] at RM2
                have HE : Hid (endS cs te (te - q) = false) := by show _ = _; rw [HE0.out, hrm]; rfl
                clear RM
                have RM := Lib.hid RM2
                clear SP2 RM2 kB kS OB OK ET EE hsp he hrm hK
                generalize (cat cs q).e1 = x at *
                go_wp2_with (first | (go_at_call 89; refine (SP.out _).mono ?_; rintro e w' ⟨rfl, rfl⟩) | (go_at_call 62; refine (RM.out _).mono ?_; rintro e w' ⟨rfl, rfl⟩))
                go_roundg q
                case measure => have := hk.out; omega
                case rel => exact ⟨q, by go_num, hp1', by omega, by rw [HE.out], by rw [← HO.out]; exact hrow, hu, Nat.le_refl _⟩
          | false =>
            have hK : ¬ OlK cs te q := fun h => by
              rcases h with h | h | h
              · exact kB h
              · exact kS h
              · rw [he] at h; simp at h
            have HO := Lib.hid (OK.out hK)
            have HE0 := Lib.hid (EE.out hK)
            have HE : Hid (endS cs te (te - q) = false) := by show _ = _; rw [HE0.out, he]; simp
            have SP2 := SP.out
            have RM2 := RM.out
            generalize (cat cs q).isRem = rm at *
            generalize ((cat cs q == .WS) || (cat cs q).isInit || (cat cs q == .PDI)) = sp at *
            clear SP RM
            have SP := Lib.hid SP2
            have RM := Lib.hid RM2
            clear SP2 RM2 kB kS OB OK ET EE he hK
            generalize (cat cs q).e1 = x at *
            cases sp <;> cases rm
            all_goals (
              go_wp2_with (first | (go_at_call 89; refine (SP.out _).mono ?_; rintro e w' ⟨rfl, rfl⟩) | (go_at_call 62; refine (RM.out _).mono ?_; rintro e w' ⟨rfl, rfl⟩))
              go_roundg q
              case measure => have := hk.out; omega
              case rel => exact ⟨q, by go_num, hp1', by omega, by rw [HE.out], by rw [← HO.out]; exact hrow, hu, Nat.le_refl _⟩)
    · obtain rfl : p = fr := by omega
      have hfin : Row wr g3 3 (nums .i64 (ofLine cs lv base p te)) := hrow
      clear hrow
      go_wp2
      go_ret
      exact ⟨g3, k3, rfl, hg3w, hfin, hu⟩
end Go.Proofs.YtjahmnenfknjgaaGreatDoor
namespace Go.Proofs.YtjahmnenfknjgaaGreatDoor
open Go.RowKit

/-- A row of the call's own, with its capacity told. -/
def RetRowC (w : World) (ty : TypeId) (n : Nat) (vs : List Value) (e : Ending) (w' : World) : Prop :=
  ∃ g c, n ≤ c ∧ e = .returned (.slice (some ⟨g, 0, none⟩) n c) ∧ w.heap.size ≤ g ∧ Row w' g ty vs ∧ Upd [] w w'

set_option maxHeartbeats 4000000 in
set_option maxRecDepth 100000 in
theorem lineLevels_any (A1 A2 A3 : Option Addr) (c1 c2 c3 : Nat) (cs : List Cl) (lv : List Int) (base : Int) (bs : List Int) (w : World) (h1 : Rd w A1 (nums .i64 (clsI cs))) (h2 : Rd w A2 (nums .i64 lv)) (h3 : Rd w A3 (nums .i64 bs)) (hl : lv.length = cs.length) (hb : BkP bs cs.length) (hcap : lv.length ≤ c2) (hm : cs.length ≤ 2147483647) (hmb : bs.length ≤ 2147483647) :
    Calls Tryz.prog 22 #[.slice A1 cs.length c1, .slice A2 cs.length c2, .int .i64 base, .slice A3 bs.length c3] w (RetRowC w 3 cs.length (nums .i64 (lineLevels cs lv base bs))) := by
  obtain ⟨i0, hi', hz0, hz1, hz2⟩ := info_parts info3
  have hown0 := World.ownsRow_lit (base := w.heap.size) (e := 3) (size := 1) w #[] 0 (Nat.le_refl _) (by decide) rfl
  have HB := Lib.hid hb
  have OFL := Lib.hid (fun fr te w h1 h2 hft hto => ofLine_any A1 A2 c1 c2 cs lv base fr te w h1 h2 hl hft hto hcap hm)
  clear hb
  go_enter Tryz.func22, Tryz.ntmps22
  go_wp2
  go_loopg [9, 10, 16] (bs.length + 1) (fun k o f i wr => ∃ (j fr g cap : Nat), i = .int .i64 j ∧ j ≤ bs.length ∧ bkl bs j = fr ∧ f = .int .i64 fr ∧ o = .slice (some ⟨g, 0, none⟩) fr cap ∧ wr.ownsRow w.heap.size 3 1 (.slice (some ⟨g, 0, none⟩) fr cap) fr (nums .i64 (lineLv cs lv base bs j)) ∧ Upd [] w wr ∧ Hid (bs.length + 1 - j ≤ k))
  case atStart => exact ⟨0, 0, w.heap.size, 0, rfl, by omega, rfl, rfl, rfl, hown0, (Upd.refl _ _).alloc _, Nat.le_refl _⟩
  case round =>
    obtain ⟨j, fr, g, cap, rfl, hj, hbk, rfl, rfl, hown, hu, hk⟩ := hrel
    by_cases hlt : j < bs.length
    · obtain ⟨ga, oa, rfl, hc⟩ := (h3.keep hu).num j hlt
      obtain ⟨hx1, hx2⟩ := HB.out.2.1 j hlt
      obtain ⟨te, hte⟩ : ∃ te : Nat, nth bs j = te := ⟨(nth bs j).toNat, by omega⟩
      have HLL : Hid (lineLv cs lv base bs (j + 1) = lineLv cs lv base bs j ++ ofLine cs lv base fr te) := by
        show lineLv cs lv base bs j ++ ofLine cs lv base (bkl bs j).toNat (nth bs j).toNat = _
        rw [hbk, hte]; rfl
      have HBS : Hid (bkl bs (j + 1) = te) := by show _ = _; rw [bkl_succ, hte]
      rw [hte] at hc hx1 hx2
      rw [hbk] at hx1
      have hx3 : fr < te := by omega
      have hx4 : te ≤ cs.length := by omega
      have hgw := hown.lt g rfl
      have hsz := hu.size
      have hof : (ofLine cs lv base fr te).length = te - fr := ofLine_length _ _ _ _ _
      clear hbk hte hx1 hx2
      go_wp2_with (first
        | (go_at_call 56; refine (OFL.out fr te _ (h1.keep hu) (h2.keep hu) hx3 hx4).mono ?_; rintro e w3 ⟨g5, k5, rfl, hg5, hr5, hu5⟩)
        | (at_builtin; go_must (refine wpList_append_two _ rfl (.tmp 20) (.tmp 26) 22 rfl w.heap.size 3 i0 (.int .i64 0) 1 8 Tryz.underlying22 hi' hz0 hz1 hz2 rfl (by decide) g fr cap _ rfl (own_upd hown hu5 (by simp)) ⟨g5, 0, none⟩ (te - fr) k5 (nums .i64 (ofLine cs lv base fr te)) rfl (by rw [nums_length, hof]; omega) hr5.adds (nums_one _ _) (by unfold maxLen; omega) (by omega) (by have := hu5.size; omega) ?_); intro g' c' w2 hown2 hgrow2 hg2; rw [show fr + (te - fr) = te by omega] at *))
      go_roundg (bs.length + 1 - (j + 1))
      case measure => have := hk.out; omega
      case rel => exact ⟨j + 1, te, g', c', by go_num, by omega, HBS.out, rfl, rfl, by rw [HLL.out]; simpa [nums] using hown2, (hu.then hu5).grown hgrow2 (fun k e => by cases e; exact .inr hgw.1), Nat.le_refl _⟩
    · obtain rfl : j = bs.length := by omega
      have hfr : fr = cs.length := by have := HB.out.2.2; omega
      subst hfr
      have hgw := hown.lt g rfl
      have hfin := Row.of_owns hown
      have HKC := Lib.hid (owns_cap hown)
      go_wp2
      go_ret
      exact ⟨g, cap, HKC.out, rfl, hgw.1, hfin, hu⟩
end Go.Proofs.YtjahmnenfknjgaaGreatDoor
namespace Go.Proofs.YtjahmnenfknjgaaGreatDoor
open Go.RowKit

theorem most_le {lv : List Int} {M : Int} (h0 : 0 ≤ M) (h : ∀ q, q < lv.length → nth lv q ≤ M) : ∀ j, j ≤ lv.length → most lv j ≤ M
  | 0, _ => h0
  | j + 1, hj => by have := most_le h0 h j (by omega); have := h j (by omega); unfold most; omega

set_option maxHeartbeats 8000000 in
set_option maxRecDepth 100000 in
theorem visual_any (A : Option Addr) (c : Nat) (lv : List Int) (w : World) (hr : Rd w A (nums .i64 lv)) (hv : ∀ q, q < lv.length → nth lv q ≤ 1000) (hm : lv.length ≤ 2147483647) :
    Calls Tryz.prog 58 #[.slice A lv.length c] w (RetRow w 3 (visual lv).length (nums .i64 (nats (visual lv)))) := by
  obtain ⟨i0, hi', hz0, hz1, hz2⟩ := info_parts info3
  have HV := Lib.hid hv
  clear hv
  have hown0 := World.ownsRow_lit (base := w.heap.size) (e := 3) (size := 1) w #[] 0 (Nat.le_refl _) (by decide) rfl
  go_enter Tryz.func58, Tryz.ntmps58
  go_wp2
  go_loopg [3, 4, 15] (lv.length + 1) (fun k o m i wr => ∃ (j g cap : Nat), i = .int .i64 j ∧ j ≤ lv.length ∧ m = .int .i64 (most lv j) ∧ o = .slice (some ⟨g, 0, none⟩) (kept lv j).length cap ∧ wr.ownsRow w.heap.size 3 1 (.slice (some ⟨g, 0, none⟩) (kept lv j).length cap) (kept lv j).length (nums .i64 (nats (kept lv j))) ∧ Upd [] w wr ∧ Hid (lv.length + 1 - j ≤ k))
  case atStart => exact ⟨0, w.heap.size, 0, rfl, by omega, rfl, rfl, hown0, (Upd.refl _ _).alloc _, Nat.le_refl _⟩
  case round =>
    obtain ⟨j, g, cap, rfl, hj, rfl, rfl, hown, hu, hk⟩ := hrel
    by_cases hlt : j < lv.length
    · obtain ⟨ga, oa, rfl, hc⟩ := (hr.keep hu).num j hlt
      have hgw := hown.lt g rfl
      have hsz := hu.size
      have hkl := kept_len lv j
      have HM : Hid (most lv (j + 1) = max (most lv j) (nth lv j)) := rfl
      by_cases hx : nth lv j = -1
      · have b1 : (nth lv j != -1) = false := by simpa using hx
        have HW := Lib.hid (kept_succ_no hx)
        clear hx
        generalize nth lv j = x at *
        generalize most lv j = y at *
        go_wp2
        all_goals (
          go_roundg (lv.length + 1 - (j + 1))
          case measure => have := hk.out; omega
          case rel => exact ⟨j + 1, g, cap, by go_num, by omega, by rw [HM.out]; congr 1; omega, by rw [HW.out], by rw [HW.out]; exact hown, hu, Nat.le_refl _⟩)
      · have b1 : (nth lv j != -1) = true := by simpa using hx
        have HW := Lib.hid (kept_succ hx)
        clear hx
        generalize nth lv j = x at *
        generalize most lv j = y at *
        go_wp2_with (at_builtin; go_must (refine wpList_append_two _ rfl (.tmp 22) (.tmp 24) 22 rfl w.heap.size 3 i0 (.int .i64 0) 1 8 Tryz.underlying22 hi' hz0 hz1 hz2 rfl (by decide) g (kept lv j).length cap _ rfl (hown.alloc _) ⟨wr.heap.size, 0, none⟩ 1 1 [.int .i64 j] rfl rfl (one_at _ _ rfl _ _) (one_int _ _) (by unfold maxLen; omega) (by omega) (by simp; omega) ?_); intro g' c' w2 hown2 hgrow2 hg2)
        all_goals (
          go_roundg (lv.length + 1 - (j + 1))
          case measure => have := hk.out; omega
          case rel => exact ⟨j + 1, g', c', by go_num, by omega, by rw [HM.out]; congr 1; omega, by rw [HW.out]; simp, by rw [HW.out]; simpa [nats, nums] using hown2, (hu.alloc _).grown hgrow2 (fun k e => by cases e; exact .inr hgw.1), Nat.le_refl _⟩)
    · obtain rfl : j = lv.length := by omega
      have hgw := hown.lt g rfl
      have hrow := Row.of_owns hown
      have hkl := kept_len lv lv.length
      have hAL := kept_lt lv
      have hmo := most_nonneg lv lv.length
      obtain ⟨M, hM⟩ : ∃ M : Nat, most lv lv.length = M := ⟨(most lv lv.length).toNat, by omega⟩
      have hMb : M ≤ 1000 := by have := most_le (M := 1000) (by omega) HV.out lv.length (Nat.le_refl _); omega
      have HVS : Hid (down lv M (kept lv lv.length) = visual lv) := by show _ = _; unfold visual; rw [hM]; rfl
      rw [hM] at *
      clear hmo hM hown
      generalize hKL : kept lv lv.length = K at *
      have HKL := Lib.hid hKL
      clear hKL
      go_wp2
      go_loopg [7] (M + 1) (fun k v wr => ∃ (m : Nat) (l : List Nat), v = .int .i64 m ∧ m ≤ M ∧ l.length = K.length ∧ AllLt lv.length l ∧ Row wr g 3 (nums .i64 (nats l)) ∧ Hid (down lv m l = visual lv) ∧ Upd [] w wr ∧ Hid (m ≤ k))
      case atStart => exact ⟨M, K, rfl, Nat.le_refl _, rfl, hAL, hrow, HVS, hu, by show _ ≤ _; omega⟩
      case round =>
        clear hrow HVS hu hAL
        obtain ⟨m, l, rfl, hmM, hll, hal, hrow, HS, hu, hk2⟩ := hrel
        by_cases hm0 : 0 < m
        · obtain ⟨m', hmm⟩ : ∃ q, m = q + 1 := ⟨m - 1, by omega⟩
          have hmi : (1 : Int) ≤ m := by omega
          have hmi2 : (m : Int) - 1 = m' := by omega
          have hmb : decide ((1 : Int) ≤ (m : Int)) = true := decide_eq_true hmi
          have HMM := Lib.hid hmm
          clear hmm
          have hlK : l.length ≤ 2147483647 := by omega
          go_wp2
          go_loopg [8] (K.length + 2) (fun k iv wr => ∃ (i : Nat) (c D r : List Nat), iv = .int .i64 i ∧ c.length = K.length ∧ AllLt lv.length c ∧ Row wr g 3 (nums .i64 (nats c)) ∧ Hid (Pass (geq lv (m : Int)) l c i D r) ∧ Upd [] w wr ∧ Hid (K.length + 1 - i ≤ k))
          case atStart => exact ⟨0, l, [], l, rfl, hll, hal, hrow, Pass.start _ _, hu, by show _ ≤ _; omega⟩
          case round =>
            clear hrow hu
            obtain ⟨i, c, D, r, rfl, hcl, hca, hrow, HP, hu, hk3⟩ := hrel
            by_cases hil : i < K.length
            · go_wp2
              obtain rfl : i = D.length := by
                have h1 := congrArg List.length HP.out.eq
                rcases HP.out.at_ with e | e
                · exact e
                · have := e.1; subst this; simp at h1; omega
              have hDr : c.length = D.length + r.length := by rw [HP.out.eq]; simp
              have HT0 : Hid (∀ q, q < 0 → geq lv (m : Int) (nat c (D.length + q)) = true) := fun q hq => by omega
              go_loopg [9] (r.length + 1) (fun k kv wi => ∃ (T : Nat), kv = .int .i64 ((D.length : Int) + T) ∧ T ≤ r.length ∧ wi = wr ∧ Hid (∀ q, q < T → geq lv (m : Int) (nat c (D.length + q)) = true) ∧ Hid (r.length + 1 - T ≤ k))
              case atStart => exact ⟨0, by simp, by omega, rfl, HT0, by show _ ≤ _; omega⟩
              case round =>
                clear HT0
                obtain ⟨T, rfl, hT, rfl, HT, hk4⟩ := hrel
                by_cases hTr : T < r.length
                · have hcc := hrow.num (D.length + T) (by simp [nats]; omega)
                  rw [nth_nats (by omega)] at hcc
                  have hcx := hca (D.length + T) (by omega)
                  obtain ⟨gl, ol, rfl, hcl3⟩ := (hr.keep hu).num _ hcx
                  by_cases hge : (m : Int) ≤ nth lv (nat c (D.length + T))
                  · have HT2 : Hid (∀ q, q < T + 1 → geq lv (m : Int) (nat c (D.length + q)) = true) := fun q hq => by
                      by_cases e : q = T
                      · subst e; exact decide_eq_true hge
                      · exact HT.out q (by omega)
                    generalize nth lv (nat c (D.length + T)) = x at *
                    generalize nat c (D.length + T) = y at *
                    go_wp2
                    go_roundg (r.length + 1 - (T + 1))
                    case measure => have := hk4.out; omega
                    case rel => exact ⟨T + 1, by go_num, by omega, rfl, HT2, Nat.le_refl _⟩
                  · have HEE : Hid (T < r.length → geq lv (m : Int) (nat c (D.length + T)) = false) := fun _ => decide_eq_false hge
                    generalize nth lv (nat c (D.length + T)) = x at hcl3 hge
                    generalize hyy : nat c (D.length + T) = y at hcl3 hcc hcx
                    clear hyy
                    go_wp2
                    go_loopg [10, 11] (T + 1) (fun k av bv wi => ∃ (s : Nat), av = .int .i64 ((D.length : Int) + s) ∧ bv = .int .i64 ((D.length : Int) + T - 1 - s) ∧ s ≤ T ∧ Row wi g 3 (nums .i64 (nats (swS c D.length (D.length + T) s))) ∧ Upd [] w wi ∧ Hid (T - s ≤ k))
                    case atStart => exact ⟨0, by simp, by congr 1; omega, by omega, by rw [swS_zero]; exact hrow, hu, by show _ ≤ _; omega⟩
                    case round =>
                      clear hrow hu
                      obtain ⟨s, rfl, rfl, hs, hrow, hu, hk5⟩ := hrel
                      by_cases hab : D.length + s < D.length + T - 1 - s
                      · obtain ⟨pa, hpa⟩ : ∃ n : Nat, (D.length : Int) + s = n := ⟨D.length + s, by omega⟩
                        obtain ⟨pb, hpb⟩ : ∃ n : Nat, (D.length : Int) + T - 1 - s = n := ⟨D.length + T - 1 - s, by omega⟩
                        have hpaN : pa = D.length + s := by omega
                        have hpbN : pb = D.length + T - 1 - s := by omega
                        have hpab : (pa : Int) < pb := by omega
                        have hpne : pa ≠ pb := by omega
                        have hpbK : pb < K.length := by omega
                        have hpaK : pa < K.length := by omega
                        have HSW := Lib.hid (swS_step (l := c) (a := D.length) (b := D.length + T) (s := s) (by omega) hab)
                        have HPA := Lib.hid hpaN
                        have HPB := Lib.hid hpbN
                        have HPA2 := Lib.hid hpa
                        have HPB2 := Lib.hid hpb
                        rw [← hpaN, ← hpbN] at HSW
                        have hsl : (swS c D.length (D.length + T) s).length = K.length := by rw [swS_length]; exact hcl
                        have ca := hrow.num pa (by simp [nats]; omega)
                        have cb := hrow.num pb (by simp [nats]; omega)
                        rw [nth_nats (by omega)] at ca cb
                        have fa := hrow.free pa
                        have fb := hrow.free pb
                        rw [hpa, hpb]
                        generalize nat (swS c D.length (D.length + T) s) pa = xa at *
                        generalize nat (swS c D.length (D.length + T) s) pb = xb at *
                        generalize hc1 : swS c D.length (D.length + T) s = cc at *
                        clear hpaN hpbN hpa hpb hab hc1
                        go_wp2
                        go_region
                        all_goals (try go_wp2)
                        go_roundg (T - (s + 1))
                        case measure => have := hk5.out; have := HPA.out; have := HPB.out; omega
                        case rel =>
                          have hrw : Row ((wr.setCell ⟨g, pa, none⟩ (.int .i64 xb)).setCell ⟨g, pb, none⟩ (.int .i64 xa)).drew g 3 (nums .i64 (nats (swS c D.length (D.length + T) (s + 1)))) := by
                            have := (hrow.setNum pa (xb : Int) (by simp [nats]; omega)).setNum pb (xa : Int) (by simp [nats]; omega)
                            rw [← HSW.out]
                            simpa [nats, List.map_set] using this.drew
                          exact ⟨s + 1, by have := HPA2.out; congr 1; omega, by have := HPB2.out; congr 1; omega, by have := HPA.out; have := HPB.out; omega, hrw, ((hu.setCell (p := ⟨g, pa, none⟩) (.inr hgw.1) _).setCell (p := ⟨g, pb, none⟩) (.inr hgw.1) _).drew, Nat.le_refl _⟩
                      · have hab2 : ¬ ((D.length : Int) + s < (D.length : Int) + T - 1 - s) := by omega
                        obtain ⟨D', r', hP2⟩ := HP.out.step hT HT.out HEE.out hab hs
                        have hP3 := Lib.hid hP2
                        have hca2 := hca.swS D.length (D.length + T) s (by omega)
                        have hcl2 : (swS c D.length (D.length + T) s).length = K.length := by rw [swS_length]; exact hcl
                        generalize swS c D.length (D.length + T) s = c2 at *
                        clear hP2
                        go_wp2
                        go_roundg (K.length + 1 - (D.length + T + 1))
                        case measure => have := hk3.out; omega
                        case rel => exact ⟨D.length + T + 1, c2, D', r', by go_num, hcl2, hca2, hrow, hP3, hu, Nat.le_refl _⟩
                · have HEE : Hid (T < r.length → geq lv (m : Int) (nat c (D.length + T)) = false) := fun h => absurd h hTr
                  go_wp2
                  go_loopg [10, 11] (T + 1) (fun k av bv wi => ∃ (s : Nat), av = .int .i64 ((D.length : Int) + s) ∧ bv = .int .i64 ((D.length : Int) + T - 1 - s) ∧ s ≤ T ∧ Row wi g 3 (nums .i64 (nats (swS c D.length (D.length + T) s))) ∧ Upd [] w wi ∧ Hid (T - s ≤ k))
                  case atStart => exact ⟨0, by simp, by congr 1; omega, by omega, by rw [swS_zero]; exact hrow, hu, by show _ ≤ _; omega⟩
                  case round =>
                    clear hrow hu
                    obtain ⟨s, rfl, rfl, hs, hrow, hu, hk5⟩ := hrel
                    by_cases hab : D.length + s < D.length + T - 1 - s
                    · obtain ⟨pa, hpa⟩ : ∃ n : Nat, (D.length : Int) + s = n := ⟨D.length + s, by omega⟩
                      obtain ⟨pb, hpb⟩ : ∃ n : Nat, (D.length : Int) + T - 1 - s = n := ⟨D.length + T - 1 - s, by omega⟩
                      have hpaN : pa = D.length + s := by omega
                      have hpbN : pb = D.length + T - 1 - s := by omega
                      have hpab : (pa : Int) < pb := by omega
                      have hpne : pa ≠ pb := by omega
                      have hpbK : pb < K.length := by omega
                      have hpaK : pa < K.length := by omega
                      have HSW := Lib.hid (swS_step (l := c) (a := D.length) (b := D.length + T) (s := s) (by omega) hab)
                      have HPA := Lib.hid hpaN
                      have HPB := Lib.hid hpbN
                      have HPA2 := Lib.hid hpa
                      have HPB2 := Lib.hid hpb
                      rw [← hpaN, ← hpbN] at HSW
                      have hsl : (swS c D.length (D.length + T) s).length = K.length := by rw [swS_length]; exact hcl
                      have ca := hrow.num pa (by simp [nats]; omega)
                      have cb := hrow.num pb (by simp [nats]; omega)
                      rw [nth_nats (by omega)] at ca cb
                      have fa := hrow.free pa
                      have fb := hrow.free pb
                      rw [hpa, hpb]
                      generalize nat (swS c D.length (D.length + T) s) pa = xa at *
                      generalize nat (swS c D.length (D.length + T) s) pb = xb at *
                      generalize hc1 : swS c D.length (D.length + T) s = cc at *
                      clear hpaN hpbN hpa hpb hab hc1
                      go_wp2
                      go_region
                      all_goals (try go_wp2)
                      go_roundg (T - (s + 1))
                      case measure => have := hk5.out; have := HPA.out; have := HPB.out; omega
                      case rel =>
                        have hrw : Row ((wr.setCell ⟨g, pa, none⟩ (.int .i64 xb)).setCell ⟨g, pb, none⟩ (.int .i64 xa)).drew g 3 (nums .i64 (nats (swS c D.length (D.length + T) (s + 1)))) := by
                          have := (hrow.setNum pa (xb : Int) (by simp [nats]; omega)).setNum pb (xa : Int) (by simp [nats]; omega)
                          rw [← HSW.out]
                          simpa [nats, List.map_set] using this.drew
                        exact ⟨s + 1, by have := HPA2.out; congr 1; omega, by have := HPB2.out; congr 1; omega, by have := HPA.out; have := HPB.out; omega, hrw, ((hu.setCell (p := ⟨g, pa, none⟩) (.inr hgw.1) _).setCell (p := ⟨g, pb, none⟩) (.inr hgw.1) _).drew, Nat.le_refl _⟩
                    · have hab2 : ¬ ((D.length : Int) + s < (D.length : Int) + T - 1 - s) := by omega
                      obtain ⟨D', r', hP2⟩ := HP.out.step hT HT.out HEE.out hab hs
                      have hP3 := Lib.hid hP2
                      have hca2 := hca.swS D.length (D.length + T) s (by omega)
                      have hcl2 : (swS c D.length (D.length + T) s).length = K.length := by rw [swS_length]; exact hcl
                      generalize swS c D.length (D.length + T) s = c2 at *
                      clear hP2
                      go_wp2
                      go_roundg (K.length + 1 - (D.length + T + 1))
                      case measure => have := hk3.out; omega
                      case rel => exact ⟨D.length + T + 1, c2, D', r', by go_num, hcl2, hca2, hrow, hP3, hu, Nat.le_refl _⟩
            · have hdn := HP.out.done (by omega)
              have HS2 : Hid (down lv m' c = visual lv) := by show _ = _; rw [hdn]; have hmm := HMM.out; have := HS.out; subst hmm; exact this
              clear hdn
              go_wp2
              go_roundg m'
              case measure => have := hk2.out; have := HMM.out; omega
              case rel => exact ⟨m', c, by go_num, by have := HMM.out; omega, hcl, hca, hrow, HS2, hu, Nat.le_refl _⟩
        · obtain rfl : m = 0 := by omega
          have HE : Hid (l = visual lv) := HS.out
          go_wp2
          go_ret
          rw [← HE.out, hll]
          exact ⟨g, cap, rfl, hgw.1, hrow, hu⟩
end Go.Proofs.YtjahmnenfknjgaaGreatDoor
namespace Go.Proofs.YtjahmnenfknjgaaGreatDoor
open Go.RowKit

theorem Rd.part {w : World} {g o : Nat} {lv : List Int} {fr te : Nat} (h : Rd w (Option.some ⟨g, o, Option.none⟩) (nums .i64 lv)) (hte : te ≤ lv.length) : Rd w (Option.some ⟨g, o + fr, Option.none⟩) (nums .i64 (Go.Proofs.YtjahmnenfknjgaaGreatDoor.part lv fr te)) := fun j hj => by
  rw [nums_length, part_length hte] at hj
  obtain ⟨g', o', e, hc⟩ := h.num (fr + j) (by omega)
  cases e
  refine ⟨g, o + fr, rfl, ?_⟩
  rw [Nat.add_assoc, hc]
  simp only [nums, List.getElem_map]
  rw [nth_eq, part_nth hte hj]

set_option maxHeartbeats 4000000 in
set_option maxRecDepth 100000 in
theorem lineOrders_any (A1 A2 : Option Addr) (c1 c2 : Nat) (lv : List Int) (bs : List Int) (w : World) (h1 : Rd w A1 (nums .i64 lv)) (h2 : Rd w A2 (nums .i64 bs)) (hb : BkP bs lv.length) (hv : ∀ q, q < lv.length → nth lv q ≤ 1000) (h0 : 0 < lv.length) (hcap : lv.length ≤ c1) (hm : lv.length ≤ 2147483647) (hmb : bs.length ≤ 2147483647) :
    Calls Tryz.prog 25 #[.slice A1 lv.length c1, .slice A2 bs.length c2] w (RetRow w 3 (lineOrders lv bs).length (nums .i64 (nats (lineOrders lv bs)))) := by
  obtain ⟨i0, hi', hz0, hz1, hz2⟩ := info_parts info3
  have hown0 := World.ownsRow_lit (base := w.heap.size) (e := 3) (size := 1) w #[] 0 (Nat.le_refl _) (by decide) rfl
  obtain ⟨gl, ol, rfl, _⟩ := h1.some (by rw [nums_length]; exact h0)
  have HB := Lib.hid hb
  have VIS := Lib.hid (fun (fr te : Nat) (hte : te ≤ lv.length) (c : Nat) (w : World) (h : Rd w (some ⟨gl, ol, none⟩) (nums .i64 lv)) => visual_any (some ⟨gl, ol + fr, none⟩) c (part lv fr te) w (h.part hte) (fun q hq => by rw [part_length hte] at hq; rw [part_nth hte hq]; exact hv _ (by omega)) (by rw [part_length hte]; omega))
  clear hb hv
  go_enter Tryz.func25, Tryz.ntmps25
  go_wp2
  go_loopg [5, 6, 14] (bs.length + 1) (fun k o f i wr => ∃ (j fr g cap : Nat), i = .int .i64 j ∧ j ≤ bs.length ∧ bkl bs j = fr ∧ f = .int .i64 fr ∧ o = .slice (some ⟨g, 0, none⟩) (lineOr lv bs j).length cap ∧ wr.ownsRow w.heap.size 3 1 (.slice (some ⟨g, 0, none⟩) (lineOr lv bs j).length cap) (lineOr lv bs j).length (nums .i64 (nats (lineOr lv bs j))) ∧ Upd [] w wr ∧ Hid (bs.length + 1 - j ≤ k))
  case atStart => exact ⟨0, 0, w.heap.size, 0, rfl, by omega, rfl, rfl, rfl, hown0, (Upd.refl _ _).alloc _, Nat.le_refl _⟩
  case round =>
    obtain ⟨j, fr, g, cap, rfl, hj, hbk, rfl, rfl, hown, hu, hk⟩ := hrel
    by_cases hlt : j < bs.length
    · obtain ⟨ga, oa, rfl, hc⟩ := (h2.keep hu).num j hlt
      obtain ⟨hx1, hx2⟩ := HB.out.2.1 j hlt
      obtain ⟨te, hte⟩ : ∃ te : Nat, nth bs j = te := ⟨(nth bs j).toNat, by omega⟩
      have HLL : Hid (lineOr lv bs (j + 1) = lineOr lv bs j ++ (visual (part lv fr te)).map (fr + ·)) := by
        show lineOr lv bs j ++ (visual (part lv (bkl bs j).toNat (nth bs j).toNat)).map ((bkl bs j).toNat + ·) = _
        rw [hbk, hte]; rfl
      have HBS : Hid (bkl bs (j + 1) = te) := by show _ = _; rw [bkl_succ, hte]
      have hll := lineOr_len HB.out j (by omega)
      rw [hbk] at hll
      rw [hte] at hc hx1 hx2
      rw [hbk] at hx1
      have hx3 : fr < te := by omega
      have hx4 : te ≤ lv.length := by omega
      have hx5 : (te : Int) ≤ c1 := by omega
      have hgw := hown.lt g rfl
      have hsz := hu.size
      have hpl := part_length (fr := fr) hx4
      have hvl := visual_len (part lv fr te)
      have hvt := visual_lt (part lv fr te)
      have VI := VIS.out fr te hx4 (c1 - fr) wr (h1.keep hu)
      rw [hpl] at VI hvl hvt
      have VI2 := Lib.hid VI
      clear hbk hte hx1 hx2 VI
      generalize visual (part lv fr te) = V at *
      simp only [Int.toNat_natCast] at hll
      go_wp2_with (go_at_call 58; refine VI2.out.mono ?_; rintro e w3 ⟨g5, k5, rfl, hg5, hr5, hu5⟩)
      have hu3 := hu.then hu5
      have hown3 := own_upd hown hu5 (by simp)
      go_loopg [5, 24] (V.length + 1) (fun k o i wi => ∃ (q g cap : Nat), i = .int .i64 q ∧ q ≤ V.length ∧ o = .slice (some ⟨g, 0, none⟩) ((lineOr lv bs j).length + q) cap ∧ wi.ownsRow w.heap.size 3 1 (.slice (some ⟨g, 0, none⟩) ((lineOr lv bs j).length + q) cap) ((lineOr lv bs j).length + q) (nums .i64 (nats (lineOr lv bs j ++ (V.take q).map (fr + ·)))) ∧ Row wi g5 3 (nums .i64 (nats V)) ∧ g ≠ g5 ∧ Upd [] w wi ∧ Hid (V.length + 1 - q ≤ k))
      case atStart => exact ⟨0, g, cap, rfl, by omega, rfl, by simpa using hown3, hr5, by omega, hu3, Nat.le_refl _⟩
      case round =>
        clear hr5 hu3 hown3 hown hgw
        obtain ⟨q, g, cap, rfl, hq, rfl, hown, hr5, hne, hu3, hk2⟩ := hrel
        have hgw := hown.lt g rfl
        by_cases hqt : q < V.length
        · have hcv := hr5.num q (by simp [nats]; exact hqt)
          rw [nth_nats hqt] at hcv
          have hsz3 := hu3.size
          have HT : Hid ((V.take (q + 1)).map (fr + ·) = (V.take q).map (fr + ·) ++ [fr + nat V q]) := by
            show _ = _
            rw [List.take_succ_eq_append_getElem hqt, List.map_append, nat_eq hqt]; rfl
          have hpt := hvt q hqt
          have hvt2 := Lib.hid hvt
          generalize nat V q = p at hcv HT hpt
          go_wp2_with (at_builtin; go_must (refine wpList_append_two _ rfl (.tmp 28) (.tmp 32) 22 rfl w.heap.size 3 i0 (.int .i64 0) 1 8 Tryz.underlying22 hi' hz0 hz1 hz2 rfl (by decide) g ((lineOr lv bs j).length + q) cap _ rfl (hown.alloc _) ⟨wr.heap.size, 0, none⟩ 1 1 [.int .i64 ((fr : Int) + p)] rfl rfl (one_at _ _ rfl _ _) (one_int _ _) (by unfold maxLen; omega) (by omega) (by simp; omega) ?_); intro g' c' w2 hown2 hgrow2 hg2)
          go_roundg (V.length + 1 - (q + 1))
          case measure => have := hk2.out; omega
          case rel =>
            have hlt5 := hr5.lt
            refine ⟨q + 1, g', c', by go_num, by omega, rfl, ?_, (hr5.alloc _).grown hgrow2 (fun e => hne (Option.some.inj e).symm), ?_, (hu3.alloc _).grown hgrow2 (fun k e => by cases e; exact .inr hgw.1), Nat.le_refl _⟩
            · rw [HT.out, ← List.append_assoc]
              simpa [nats, nums, Nat.add_assoc] using hown2
            · rcases hg2 with e | e
              · rw [e]; exact hne
              · simp at e; omega
        · obtain rfl : q = V.length := by omega
          rw [List.take_length, ← HLL.out] at hown
          have hln : (lineOr lv bs j).length + V.length = (lineOr lv bs (j + 1)).length := by rw [HLL.out]; simp
          go_wp2
          go_roundg (bs.length + 1 - (j + 1))
          case measure => have := hk.out; omega
          case rel => exact ⟨j + 1, te, g, cap, by go_num, by omega, HBS.out, rfl, by rw [hln], by rw [← hln]; exact hown, hu3, Nat.le_refl _⟩
    · obtain rfl : j = bs.length := by omega
      have hgw := hown.lt g rfl
      have hfin := Row.of_owns hown
      go_wp2
      go_ret
      exact ⟨g, cap, rfl, hgw.1, hfin, hu⟩
end Go.Proofs.YtjahmnenfknjgaaGreatDoor
