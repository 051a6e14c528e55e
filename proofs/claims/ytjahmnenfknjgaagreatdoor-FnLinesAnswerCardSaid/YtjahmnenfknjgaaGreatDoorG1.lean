/- Words on memory: what a call may turn (Upd) and what a block holds (Row); plain lemmas, no walk. -/
import Derived.Test.YtjahmnenfknjgaaGreatDoorProg
import Derived.WalkKit
import Derived.Lib.Hide
import Derived.Deep.LoopGhost
import Derived.Deep.Draws
import Derived.WalkSpells
import Derived.WalkSmall
set_option linter.unusedVariables false
set_option linter.unusedSimpArgs false
namespace Go.Proofs.YtjahmnenfknjgaaGreatDoor
open Go.RowKit

/-- All old blocks but those of S are as they were. -/
structure Upd (S : List Nat) (w w' : World) : Prop where
  os : w'.os = w.os
  tape : w'.tape = w.tape
  output : w'.output = w.output
  size : w.heap.size ≤ w'.heap.size
  block : ∀ k, k < w.heap.size → k ∉ S → w'.heap[k]? = w.heap[k]?

theorem Upd.refl (S : List Nat) (w : World) : Upd S w w := ⟨rfl, rfl, rfl, Nat.le_refl _, fun _ _ _ => rfl⟩
theorem Upd.step {S T : List Nat} {a b c : World} (h : Upd S a b) (k : Upd T b c) (hT : ∀ t, t ∈ T → t ∈ S ∨ a.heap.size ≤ t) : Upd S a c :=
  ⟨k.os.trans h.os, k.tape.trans h.tape, k.output.trans h.output, Nat.le_trans h.size k.size, fun i hi hn => by
    rw [k.block i (Nat.lt_of_lt_of_le hi h.size) (fun hm => by rcases hT i hm with h1 | h1; exact hn h1; omega), h.block i hi hn]⟩
theorem Upd.trans {S : List Nat} {a b c : World} (h : Upd S a b) (k : Upd S b c) : Upd S a c := h.step k fun _ ht => .inl ht
theorem Upd.then {S : List Nat} {a b c : World} (h : Upd S a b) (k : Upd [] b c) : Upd S a c := h.step k fun _ ht => by cases ht
theorem Upd.mono {S T : List Nat} {a b : World} (h : Upd S a b) (hs : ∀ t, t ∈ S → t ∈ T) : Upd T a b :=
  ⟨h.os, h.tape, h.output, h.size, fun k hk hn => h.block k hk fun hm => hn (hs k hm)⟩
theorem Upd.drew {S : List Nat} {a w : World} (h : Upd S a w) : Upd S a w.drew := ⟨h.os, h.tape, h.output, h.size, h.block⟩
theorem Upd.drewN {S : List Nat} {a w : World} (h : Upd S a w) (n : Nat) : Upd S a (w.drewN n) := ⟨h.os, h.tape, h.output, h.size, h.block⟩
theorem Upd.alloc {S : List Nat} {a w : World} (h : Upd S a w) (o : Obj) : Upd S a (w.alloc o) :=
  ⟨h.os, h.tape, h.output, Nat.le_trans h.size (by simp), fun k hk hn => by
    rw [Below.heap_alloc _ _ _ (Nat.lt_of_lt_of_le hk h.size), h.block k hk hn]⟩
theorem Upd.setCell {S : List Nat} {a w : World} (h : Upd S a w) {p : Addr} (hp : p.block ∈ S ∨ a.heap.size ≤ p.block) (u : Value) : Upd S a (w.setCell p u) :=
  ⟨h.os, h.tape, h.output, by simpa using h.size, fun k hk hn => by
    rw [Below.heap_setCell _ _ _ _ (by rintro rfl; rcases hp with h1 | h1; exact hn h1; omega), h.block k hk hn]⟩
theorem Upd.grown {S : List Nat} {a w w' : World} (h : Upd S a w) {row : Option Nat} (hg : w.grownBy w' row) (hr : ∀ k, row = some k → k ∈ S ∨ a.heap.size ≤ k) : Upd S a w' :=
  ⟨hg.os.trans h.os, hg.tape.trans h.tape, hg.output.trans h.output, Nat.le_trans h.size hg.size, fun k hk hn => by
    rw [hg.block k (Nat.lt_of_lt_of_le hk h.size) (fun e => by rcases hr k e.symm with h1 | h1; exact hn h1; omega), h.block k hk hn]⟩
theorem Upd.grown0 {S : List Nat} {a w w' : World} (h : Upd S a w) (hg : w.grownBy w' none) : Upd S a w' := h.grown hg fun _ h => by cases h
theorem Upd.below {w w' : World} (h : Upd [] w w') : Below w.heap.size w w' := ⟨h.os, h.tape, h.output, h.size, fun k hk => h.block k hk (by simp)⟩
theorem Upd.ofBelow {S : List Nat} {w w' : World} (h : Below w.heap.size w w') : Upd S w w' := ⟨h.os, h.tape, h.output, h.size, fun k hk _ => h.block k hk⟩
theorem Upd.cell {S : List Nat} {w w' : World} (h : Upd S w w') {p : Addr} {v : Value} (hc : w.cell? p = some v) (hn : p.block ∉ S) : w'.cell? p = some v :=
  (World.cell?_of_block (h.block p.block (World.block_lt_of_cell? w p hc) hn)).trans hc

/-- Block g holds, at its head, the cells vs; none is frozen. -/
def Row (w : World) (g : Nat) (ty : TypeId) (vs : List Value) : Prop := ∃ rest : List Value, w.heap[g]? = some (.cells (vs ++ rest).toArray ty (0, 0))

theorem Row.lt {w : World} {g : Nat} {ty : TypeId} {vs : List Value} (h : Row w g ty vs) : g < w.heap.size := by
  obtain ⟨r, h⟩ := h
  exact (Array.getElem?_eq_some_iff.1 h).1
theorem Row.cell {w : World} {g : Nat} {ty : TypeId} {vs : List Value} (h : Row w g ty vs) (j : Nat) (hj : j < vs.length) : w.cell? ⟨g, j, none⟩ = some vs[j] := by
  obtain ⟨r, h⟩ := h
  simp [World.cell?, h, List.getElem?_append_left hj, hj]
theorem Row.free {w : World} {g : Nat} {ty : TypeId} {vs : List Value} (h : Row w g ty vs) (j : Nat) : w.frozen? ⟨g, j, none⟩ = false := by
  obtain ⟨r, h⟩ := h
  simp [World.frozen?, h]
theorem Row.of_block {w w' : World} {g : Nat} {ty : TypeId} {vs : List Value} (h : Row w g ty vs) (e : w'.heap[g]? = w.heap[g]?) : Row w' g ty vs := by
  obtain ⟨r, h⟩ := h
  exact ⟨r, e.trans h⟩
theorem Row.upd {S : List Nat} {w w' : World} {g : Nat} {ty : TypeId} {vs : List Value} (h : Row w g ty vs) (hu : Upd S w w') (hn : g ∉ S) : Row w' g ty vs := h.of_block (hu.block g h.lt hn)
theorem Row.drew {w : World} {g : Nat} {ty : TypeId} {vs : List Value} (h : Row w g ty vs) : Row w.drew g ty vs := h
theorem Row.drewN {w : World} {g : Nat} {ty : TypeId} {vs : List Value} (h : Row w g ty vs) (n : Nat) : Row (w.drewN n) g ty vs := h
theorem Row.alloc {w : World} {g : Nat} {ty : TypeId} {vs : List Value} (h : Row w g ty vs) (o : Obj) : Row (w.alloc o) g ty vs := h.of_block (Below.heap_alloc _ _ _ h.lt)
theorem Row.other {w : World} {g : Nat} {ty : TypeId} {vs : List Value} (h : Row w g ty vs) {p : Addr} (hp : g ≠ p.block) (u : Value) : Row (w.setCell p u) g ty vs := h.of_block (Below.heap_setCell _ _ _ _ hp)
theorem Row.set {w : World} {g : Nat} {ty : TypeId} {vs : List Value} (h : Row w g ty vs) (j : Nat) (u : Value) : j < vs.length → Row (w.setCell ⟨g, j, none⟩ u) g ty (vs.set j u) := by
  intro hj
  obtain ⟨r, h⟩ := h
  refine ⟨r, ?_⟩
  rw [heap_setCell_same w g j _ ty u h]
  congr 2
  apply Array.toList_inj.1
  rw [Array.toList_setIfInBounds]
  simp [List.set_append_left _ _ hj]
theorem Row.grown {w w' : World} {g : Nat} {ty : TypeId} {vs : List Value} (h : Row w g ty vs) {row : Option Nat} (hg : w.grownBy w' row) (hn : some g ≠ row) : Row w' g ty vs := h.of_block (hg.block g h.lt hn)
theorem Row.new (w : World) (ty : TypeId) (vs : List Value) : Row (w.alloc (.cells vs.toArray ty)) w.heap.size ty vs :=
  ⟨[], by rw [heap_alloc_new]; simp⟩
theorem Row.ne_type {w : World} {g g' : Nat} {ty ty' : TypeId} {vs vs' : List Value} (h : Row w g ty vs) (h' : Row w g' ty' vs') (hne : ty ≠ ty') : g ≠ g' := by
  rintro rfl
  obtain ⟨r, h⟩ := h
  obtain ⟨r', h'⟩ := h'
  rw [h] at h'
  injection h' with h'
  injection h' with _ ht
  exact hne ht
theorem Row.take {w : World} {g : Nat} {ty : TypeId} {vs us : List Value} (h : Row w g ty (vs ++ us)) : Row w g ty vs := by
  obtain ⟨r, h⟩ := h
  exact ⟨us ++ r, by rw [h, List.append_assoc]⟩
theorem Row.of_owns {w : World} {base g n cap size : Nat} {ty : TypeId} {xs : List Value} (h : w.ownsRow base ty size (.slice (some ⟨g, 0, none⟩) n cap) n xs) : Row w g ty xs := by
  rcases h.2 with ⟨h', _⟩ | ⟨g', cap', cur, h', _, hg, _, _, _, htake⟩
  · simp at h'
  · simp only [Value.slice.injEq, Option.some.injEq, Addr.mk.injEq, and_true, true_and] at h'
    obtain ⟨rfl, rfl⟩ := h'
    refine ⟨cur.toList.drop (n * size), ?_⟩
    rw [hg, ← htake, List.take_append_drop]

/-! ### A slice value that reads as a list: nil, empty and other slices alike -/
/-- The slice at A reads as the values vs (cells of one place each). -/
def Rd (w : World) (A : Option Addr) (vs : List Value) : Prop := ∀ j, (h : j < vs.length) → ∃ g o, A = some ⟨g, o, none⟩ ∧ w.cell? ⟨g, o + j, none⟩ = some vs[j]

theorem Rd.upd {S : List Nat} {w w' : World} {A : Option Addr} {vs : List Value} (h : Rd w A vs) (hu : Upd S w w') (hn : ∀ a, A = some a → a.block ∉ S) : Rd w' A vs := fun j hj => by
  obtain ⟨g, o, e, hc⟩ := h j hj
  exact ⟨g, o, e, hu.cell (p := ⟨g, o + j, none⟩) hc (hn ⟨g, o, none⟩ e)⟩
theorem Rd.keep {w w' : World} {A : Option Addr} {vs : List Value} (h : Rd w A vs) (hu : Upd [] w w') : Rd w' A vs := h.upd hu fun _ _ => by simp
theorem Rd.drewN {w : World} {A : Option Addr} {vs : List Value} (h : Rd w A vs) (n : Nat) : Rd (w.drewN n) A vs := h
theorem Rd.nil (w : World) (A : Option Addr) : Rd w A [] := fun j h => by simp at h
theorem Rd.of_row {w : World} {g : Nat} {ty : TypeId} {vs : List Value} (h : Row w g ty vs) : Rd w (some ⟨g, 0, none⟩) vs := fun j hj => ⟨g, 0, rfl, by rw [Nat.zero_add]; exact h.cell j hj⟩

/-! ### Lists of numbers -/
/-- The j-th number (0 beyond the end): kept from simp. -/
def nth (l : List Int) (j : Nat) : Int := l.getD j 0
theorem nth_eq {l : List Int} {j : Nat} (h : j < l.length) : l[j] = nth l j := by simp [nth, h]
theorem nth_cons_zero (a : Int) (l : List Int) : nth (a :: l) 0 = a := rfl
theorem nth_cons_succ (a : Int) (l : List Int) (j : Nat) : nth (a :: l) (j + 1) = nth l j := by simp [nth]
theorem nth_append_left {l m : List Int} {j : Nat} (h : j < l.length) : nth (l ++ m) j = nth l j := by simp [nth, List.getElem?_append_left h]
theorem nth_append_right {l m : List Int} {j : Nat} (h : l.length ≤ j) : nth (l ++ m) j = nth m (j - l.length) := by simp [nth, List.getElem?_append_right h]
theorem nth_set_self {l : List Int} {j : Nat} {x : Int} (h : j < l.length) : nth (l.set j x) j = x := by simp [nth, h]
theorem nth_set_ne {l : List Int} {i j : Nat} {x : Int} (h : i ≠ j) : nth (l.set i x) j = nth l j := by simp [nth, List.getElem?_set_ne h]
theorem nth_map {l : List Int} {j : Nat} (f : Int → Int) (h : j < l.length) : nth (l.map f) j = f (nth l j) := by simp [nth, h]
theorem nth_replicate {n j : Nat} {x : Int} (h : j < n) : nth (List.replicate n x) j = x := by simp [nth, h]
theorem ext_nth {l m : List Int} (hl : l.length = m.length) (h : ∀ j, j < l.length → nth l j = nth m j) : l = m := by
  apply List.ext_getElem hl
  intro j h1 h2
  rw [nth_eq h1, nth_eq h2]
  exact h j h1
/-- Numbers of kind k as values. -/
def nums (k : IntKind) (l : List Int) : List Value := l.map (Value.int k)
theorem nums_length (k : IntKind) (l : List Int) : (nums k l).length = l.length := by simp [nums]
theorem nums_get {k : IntKind} {l : List Int} {j : Nat} (h : j < (nums k l).length) : (nums k l)[j] = .int k (nth l j) := by
  simp only [nums, List.getElem_map]
  rw [nth_eq]
theorem nums_set (k : IntKind) (l : List Int) (j : Nat) (x : Int) : (nums k l).set j (.int k x) = nums k (l.set j x) := by simp [nums, List.map_set]
theorem nums_append (k : IntKind) (l m : List Int) : nums k (l ++ m) = nums k l ++ nums k m := by simp [nums]
theorem Row.num {w : World} {g : Nat} {ty : TypeId} {k : IntKind} {l : List Int} (h : Row w g ty (nums k l)) (j : Nat) (hj : j < l.length) : w.cell? ⟨g, j, none⟩ = some (.int k (nth l j)) := by
  rw [h.cell j (by rw [nums_length]; exact hj), nums_get]
theorem Rd.num {w : World} {A : Option Addr} {k : IntKind} {l : List Int} (h : Rd w A (nums k l)) (j : Nat) (hj : j < l.length) : ∃ g o, A = some ⟨g, o, none⟩ ∧ w.cell? ⟨g, o + j, none⟩ = some (.int k (nth l j)) := by
  obtain ⟨g, o, e, hc⟩ := h j (by rw [nums_length]; exact hj)
  exact ⟨g, o, e, by rw [hc, nums_get]⟩
theorem Row.setNum {w : World} {g : Nat} {ty : TypeId} {k : IntKind} {l : List Int} (h : Row w g ty (nums k l)) (j : Nat) (x : Int) (hj : j < l.length) : Row (w.setCell ⟨g, j, none⟩ (.int k x)) g ty (nums k (l.set j x)) := by
  rw [← nums_set]
  exact h.set j _ (by rw [nums_length]; exact hj)

/-! ### Lists of places -/
def nats (l : List Nat) : List Int := l.map fun n : Nat => (n : Int)
def nat (l : List Nat) (j : Nat) : Nat := l.getD j 0
theorem nats_length (l : List Nat) : (nats l).length = l.length := by simp [nats]
theorem nats_append (l m : List Nat) : nats (l ++ m) = nats l ++ nats m := by simp [nats]
theorem nth_nats {l : List Nat} {j : Nat} (h : j < l.length) : nth (nats l) j = (nat l j : Int) := by simp [nth, nats, nat, h]
theorem nat_eq {l : List Nat} {j : Nat} (h : j < l.length) : l[j] = nat l j := by simp [nat, h]
theorem nat_mem {l : List Nat} {j : Nat} (h : j < l.length) : nat l j ∈ l := by rw [← nat_eq h]; exact List.getElem_mem h
theorem nat_last (l : List Nat) (t : Nat) : nat (l ++ [t]) l.length = t := by simp [nat]
theorem made_nums (k : IntKind) (x : Int) (n : Nat) : (madeCells #[Value.int k x] n).toList = nums k (List.replicate n x) := by
  rw [toList_madeCells_one]
  simp [nums]
theorem ret_int {k : IntKind} {a b : Int} (h : a = b) : Ending.returned (.int k a) = .returned (.int k b) := by rw [h]
theorem World.ownsRow.drewN {w : World} {base : Nat} {e : TypeId} {size : Nat} {v : Value} {n : Nat} {xs : List Value} (h : w.ownsRow base e size v n xs) (q : Nat) : (w.drewN q).ownsRow base e size v n xs := h
theorem own_upd {S : List Nat} {w w' : World} {base : Nat} {e : TypeId} {size : Nat} {v : Value} {n : Nat} {xs : List Value} (h : w.ownsRow base e size v n xs) (hu : Upd S w w') (hn : ∀ k, v.ownBlock = some k → k ∉ S) : w'.ownsRow base e size v n xs := by
  refine ⟨h.1, ?_⟩
  rcases h.2 with hz | ⟨g, cap, cur, rfl, hb, hgg, rest⟩
  · exact .inl hz
  · refine .inr ⟨g, cap, cur, rfl, hb, ?_, rest⟩
    rw [hu.block g (Array.getElem?_eq_some_iff.1 hgg).1 (hn g rfl)]
    exact hgg
/-- The one cell of a new block, whose number is known by an equation. -/
theorem one_at (w : World) (n : Nat) (hn : n = w.heap.size) (u : Value) (ty : TypeId) : ∀ j v, [u][j]? = some v → (w.alloc (.cells #[u] ty)).cell? ((⟨n, 0, none⟩ : Addr).add j) = some v := by
  subst hn
  intro j v hj
  match j, hj with
  | 0, hj => simp at hj; subst hj; simp [Addr.add]
theorem slice_inj {a b : Option Addr} {n m c d : Nat} (h : Value.slice a n c = .slice b m d) : a = b ∧ n = m ∧ c = d := by simpa using h
theorem owns_cap {w : World} {base g n cap size : Nat} {ty : TypeId} {xs : List Value} (h : w.ownsRow base ty size (.slice (some ⟨g, 0, none⟩) n cap) n xs) : n ≤ cap := by
  rcases h.2 with ⟨h', _⟩ | ⟨g', cap', cur, h', _, hg, hn, _⟩
  · simp at h'
  · simp only [Value.slice.injEq, Option.some.injEq, Addr.mk.injEq, and_true, true_and] at h'
    obtain ⟨rfl, rfl⟩ := h'
    exact hn
/-- A cut s[:m] of a row that the call owns. -/
theorem own_prefix {w : World} {base : Nat} {e : TypeId} {size g cap n m : Nat} {xs ys : List Value} (h : w.ownsRow base e size (.slice (some ⟨g, 0, none⟩) n cap) n (xs ++ ys)) (hx : xs.length = m * size) (hm : m ≤ n) :
    w.ownsRow base e size (.slice (some ⟨g, 0, none⟩) m cap) m xs := by
  obtain ⟨_, h2⟩ := h
  rcases h2 with ⟨h0, _⟩ | ⟨g', cap', cur, hv, hg, hh, hn, hcap, hsz, htake⟩
  · cases h0
  · cases hv
    refine ⟨hx, .inr ⟨g, cap, cur, rfl, hg, hh, by omega, hcap, hsz, ?_⟩⟩
    have h3 : (cur.toList.take (n * size)).take (m * size) = (xs ++ ys).take (m * size) := by rw [htake]
    rw [List.take_take, Nat.min_eq_left (Nat.mul_le_mul_right _ hm)] at h3
    rw [h3, ← hx, List.take_left]
/-- The header of a slice at the head of block g. -/
def hdr (g n c : Nat) : Value := .slice (some ⟨g, 0, none⟩) n c
/-- What is read at A: rows of two places each, in blocks from base on. -/
def TwoRows (w : World) (base : Nat) (A : Option Addr) (ps : List (Nat × Nat)) : Prop :=
  ∃ gs : List Nat, gs.length = ps.length ∧ Rd w A (gs.map fun g => hdr g 2 2) ∧ ∀ i (h : i < gs.length) (h' : i < ps.length), base ≤ gs[i] ∧ Row w gs[i] 3 (nums .i64 (nats [ps[i].1, ps[i].2]))
theorem two_at (w : World) (n : Nat) (hn : n = w.heap.size) (u1 u2 : Value) (ty : TypeId) : ∀ j v, [u1, u2][j]? = some v → (w.alloc (.cells #[u1, u2] ty)).cell? ((⟨n, 0, none⟩ : Addr).add j) = some v := by
  subst hn
  intro j v hj
  match j, hj with
  | 0, hj => simp at hj; subst hj; simp [Addr.add]
  | 1, hj => simp at hj; subst hj; simp [Addr.add]
  | n + 2, hj => simp at hj
theorem hdr_one (l : List Value) (h : ∀ u ∈ l, ∃ g n c, u = hdr g n c) : ∀ u ∈ l, u.oneCell' = true := by
  intro u hu
  obtain ⟨g, n, c, rfl⟩ := h u hu
  rfl
end Go.Proofs.YtjahmnenfknjgaaGreatDoor
namespace Go.Proofs.YtjahmnenfknjgaaGreatDoor

inductive Cl where
  | L | R | EN | ES | ET | AN | CS | B | S | WS | ON | BN | NSM | AL | LRO | RLO | LRE | RLE | PDF | LRI | RLI | FSI | PDI
  deriving DecidableEq

namespace Cl
/-- The set's number. -/
def e1 : Cl → Int
  | L => 0 | R => 1 | EN => 2 | ES => 3 | ET => 4 | AN => 5 | CS => 6 | B => 7 | S => 8 | WS => 9 | ON => 10 | BN => 11 | NSM => 12 | AL => 13
  | LRO => 14 | RLO => 15 | LRE => 16 | RLE => 17 | PDF => 18 | LRI => 19 | RLI => 20 | FSI => 21 | PDI => 22
/-- The package's number. -/
def e2 : Cl → Int
  | L => 0 | R => 1 | EN => 2 | ES => 3 | ET => 4 | AN => 5 | CS => 6 | B => 7 | S => 8 | WS => 9 | ON => 10 | BN => 11 | NSM => 12 | AL => 13
  | LRO => 16 | RLO => 17 | LRE => 18 | RLE => 19 | PDF => 20 | LRI => 21 | RLI => 22 | FSI => 23 | PDI => 24
def isInit : Cl → Bool
  | LRI => true | RLI => true | FSI => true | _ => false
/-- Removed by X9. -/
def isRem : Cl → Bool
  | LRO => true | RLO => true | LRE => true | RLE => true | PDF => true | BN => true | _ => false
/-- Neutral or isolate formatting. -/
def isNI : Cl → Bool
  | B => true | S => true | WS => true | ON => true | LRI => true | RLI => true | FSI => true | PDI => true | _ => false
theorem e1_range (c : Cl) : 0 ≤ c.e1 ∧ c.e1 < 23 := by cases c <;> decide
theorem e2_range (c : Cl) : 0 ≤ c.e2 ∧ c.e2 < 25 := by cases c <;> decide
theorem e1_inj {a b : Cl} (h : a.e1 = b.e1) : a = b := by cases a <;> cases b <;> first | rfl | (exact absurd h (by decide))
theorem e2_inj {a b : Cl} (h : a.e2 = b.e2) : a = b := by cases a <;> cases b <;> first | rfl | (exact absurd h (by decide))
theorem e1_beq (a b : Cl) : (a.e1 == b.e1) = decide (a = b) := by
  by_cases h : a = b
  · subst h; simp
  · simp [h]; exact fun e => h (e1_inj e)
theorem e2_beq (a b : Cl) : (a.e2 == b.e2) = decide (a = b) := by
  by_cases h : a = b
  · subst h; simp
  · simp [h]; exact fun e => h (e2_inj e)
/-- The class with a number of the set. -/
def of1 (n : Int) : Cl :=
  if n = 0 then L else if n = 1 then R else if n = 2 then EN else if n = 3 then ES else if n = 4 then ET else if n = 5 then AN else if n = 6 then CS else if n = 7 then B
  else if n = 8 then S else if n = 9 then WS else if n = 10 then ON else if n = 11 then BN else if n = 12 then NSM else if n = 13 then AL else if n = 14 then LRO else if n = 15 then RLO
  else if n = 16 then LRE else if n = 17 then RLE else if n = 18 then PDF else if n = 19 then LRI else if n = 20 then RLI else if n = 21 then FSI else PDI
theorem of1_e1 (c : Cl) : of1 c.e1 = c := by cases c <;> rfl
theorem e1_of1 {n : Int} (h0 : 0 ≤ n) (h1 : n < 23) : (of1 n).e1 = n := by
  have : n = 0 ∨ n = 1 ∨ n = 2 ∨ n = 3 ∨ n = 4 ∨ n = 5 ∨ n = 6 ∨ n = 7 ∨ n = 8 ∨ n = 9 ∨ n = 10 ∨ n = 11 ∨ n = 12 ∨ n = 13 ∨ n = 14 ∨ n = 15 ∨ n = 16 ∨ n = 17 ∨ n = 18 ∨ n = 19 ∨ n = 20 ∨ n = 21 ∨ n = 22 := by omega
  rcases this with h | h | h | h | h | h | h | h | h | h | h | h | h | h | h | h | h | h | h | h | h | h | h <;> subst h <;> rfl
end Cl

/-- A class of a list (ON beyond the end): kept from simp. -/
def cat (l : List Cl) (j : Nat) : Cl := l.getD j .ON
theorem cat_eq {l : List Cl} {j : Nat} (h : j < l.length) : l[j] = cat l j := by simp [cat, h]
theorem cat_set_self {l : List Cl} {j : Nat} {x : Cl} (h : j < l.length) : cat (l.set j x) j = x := by simp [cat, h]
theorem cat_set_ne {l : List Cl} {i j : Nat} {x : Cl} (h : i ≠ j) : cat (l.set i x) j = cat l j := by simp [cat, List.getElem?_set_ne h]
theorem cat_append_left {l m : List Cl} {j : Nat} (h : j < l.length) : cat (l ++ m) j = cat l j := by simp [cat, List.getElem?_append_left h]
theorem cat_append_right {l m : List Cl} {j : Nat} (h : l.length ≤ j) : cat (l ++ m) j = cat m (j - l.length) := by simp [cat, List.getElem?_append_right h]
theorem ext_cat {l m : List Cl} (hl : l.length = m.length) (h : ∀ j, j < l.length → cat l j = cat m j) : l = m := by
  apply List.ext_getElem hl
  intro j h1 h2
  rw [cat_eq h1, cat_eq h2]
  exact h j h1
end Go.Proofs.YtjahmnenfknjgaaGreatDoor
namespace Go.Proofs.YtjahmnenfknjgaaGreatDoor
open Go.RowKit

/-- Classes as values of the package (U) and of the set (I). -/
def clsU (l : List Cl) : List Value := l.map fun c => .int .u64 c.e2
def clsI (l : List Cl) : List Int := l.map Cl.e1
theorem clsU_length (l : List Cl) : (clsU l).length = l.length := by simp [clsU]
theorem clsI_length (l : List Cl) : (clsI l).length = l.length := by simp [clsI]
theorem clsU_append (l m : List Cl) : clsU (l ++ m) = clsU l ++ clsU m := by simp [clsU]
theorem clsU_set (l : List Cl) (j : Nat) (x : Cl) : (clsU l).set j (.int .u64 x.e2) = clsU (l.set j x) := by simp [clsU, List.map_set]
theorem nth_clsI {l : List Cl} {j : Nat} (h : j < l.length) : nth (clsI l) j = (cat l j).e1 := by simp [nth, clsI, cat, h]
theorem Row.cls {w : World} {g : Nat} {ty : TypeId} {l : List Cl} (h : Row w g ty (clsU l)) (j : Nat) (hj : j < l.length) : w.cell? ⟨g, j, none⟩ = some (.int .u64 (cat l j).e2) := by
  rw [h.cell j (by rw [clsU_length]; exact hj)]
  simp only [clsU, List.getElem_map]
  rw [cat_eq]
theorem Rd.cls {w : World} {A : Option Addr} {l : List Cl} (h : Rd w A (clsU l)) (j : Nat) (hj : j < l.length) : ∃ g o, A = some ⟨g, o, none⟩ ∧ w.cell? ⟨g, o + j, none⟩ = some (.int .u64 (cat l j).e2) := by
  obtain ⟨g, o, e, hc⟩ := h j (by rw [clsU_length]; exact hj)
  refine ⟨g, o, e, ?_⟩
  rw [hc]
  simp only [clsU, List.getElem_map]
  rw [cat_eq]
theorem Row.setCls {w : World} {g : Nat} {ty : TypeId} {l : List Cl} (h : Row w g ty (clsU l)) (j : Nat) (x : Cl) (hj : j < l.length) : Row (w.setCell ⟨g, j, none⟩ (.int .u64 x.e2)) g ty (clsU (l.set j x)) := by
  rw [← clsU_set]
  exact h.set j _ (by rw [clsU_length]; exact hj)

theorem take_snoc_map {α β : Type} (f : α → β) (l : List α) (j : Nat) (h : j < l.length) : (l.take (j + 1)).map f = (l.take j).map f ++ [f l[j]] := by
  rw [List.take_succ_eq_append_getElem h, List.map_append]; rfl
theorem clsU_take_succ {l : List Cl} {j : Nat} (h : j < l.length) : clsU (l.take j) ++ [.int .u64 (cat l j).e2] = clsU (l.take (j + 1)) := by
  unfold clsU; rw [take_snoc_map _ _ _ h, cat_eq]
theorem nums_take_succ {k : IntKind} {l : List Int} {j : Nat} (h : j < l.length) : nums k (l.take j) ++ [.int k (nth l j)] = nums k (l.take (j + 1)) := by
  unfold nums; rw [take_snoc_map _ _ _ h, nth_eq]
/-- The one cell of a new block. -/
theorem one_new (w : World) (u : Value) (ty : TypeId) : ∀ j v, [u][j]? = some v → (w.alloc (.cells #[u] ty)).cell? ((⟨w.heap.size, 0, none⟩ : Addr).add j) = some v := by
  intro j v hj
  match j, hj with
  | 0, hj => simp at hj; subst hj; simp [Addr.add]
theorem one_int (k : IntKind) (x : Int) : ∀ u ∈ [Value.int k x], u.oneCell' = true := by
  intro u hu; simp at hu; subst hu; rfl
theorem info77 : (Tryz.prog.info? 77).map (fun i => (i.zero, i.size, i.bytes)) = some (some (.int .u64 0), 1, 8) := by kernel_rfl
theorem info3 : (Tryz.prog.info? 3).map (fun i => (i.zero, i.size, i.bytes)) = some (some (.int .i64 0), 1, 8) := by kernel_rfl
theorem info5 : (Tryz.prog.info? 5).map (fun i => (i.zero, i.size, i.bytes)) = some (some (.int .u8 0), 1, 1) := by kernel_rfl
theorem info21 : (Tryz.prog.info? 21).map (fun i => (i.zero, i.size, i.bytes)) = some (some (.int .i32 0), 1, 4) := by kernel_rfl
theorem info60 : (Tryz.prog.info? 60).map (fun i => (i.zero, i.size, i.bytes)) = some (some (.int .i8 0), 1, 1) := by kernel_rfl

/-- The package-level table, at block 0. -/
def tab : List Int := [0, 1, 2, 3, 4, 5, 6, 7, 8, 9, 10, 11, 12, 13, 16, 17, 18, 19, 20, 21, 22, 23, 24]
def tabA : Array Value := (nums .u64 tab).toArray
def Tab (w : World) : Prop := ∃ t fr, w.heap[0]? = some (.cells tabA t fr)
theorem Tab.upd {S : List Nat} {w w' : World} (h : Tab w) (hu : Upd S w w') (hn : 0 ∉ S) : Tab w' := by
  obtain ⟨t, fr, h⟩ := h
  exact ⟨t, fr, (hu.block 0 (Array.getElem?_eq_some_iff.1 h).1 hn).trans h⟩
theorem tabA_at {j : Nat} (hj : j < 23) : tabA[j]? = some (.int .u64 (nth tab j)) := by
  have h : j < tab.length := hj
  simp [tabA, nums, nth, h]
theorem Tab.at {w : World} (h : Tab w) {j : Nat} (hj : j < 23) : w.cell? ⟨0, j, none⟩ = some (.int .u64 (nth tab j)) := by
  obtain ⟨t, fr, h⟩ := h
  simp [World.cell?, h, tabA_at hj]
theorem tab_at (c : Cl) : nth tab c.e1.toNat = c.e2 := by cases c <;> rfl
theorem classOf_any (c : Cl) (w : World) (ht : Tab w) :
    Calls Tryz.prog 50 #[.int .i64 c.e1] w fun e w' => e = .returned (.int .u64 c.e2) ∧ w = w' := by
  have hr := c.e1_range
  have hc := ht.at (j := c.e1.toNat) (by omega)
  rw [tab_at] at hc
  generalize c.e2 = v at *
  generalize c.e1 = n at *
  obtain ⟨h0, h1⟩ := hr
  go_enter Tryz.func50, Tryz.ntmps50
  go_wp2
  go_ret
  exact ⟨rfl, rfl⟩

set_option maxHeartbeats 400000 in
theorem classesOf_any (A : Option Addr) (c : Nat) (cs : List Cl) (w : World) (ht : Tab w) (hr : Rd w A (nums .i64 (clsI cs))) (hm : cs.length ≤ 2147483647) :
    Calls Tryz.prog 39 #[.slice A cs.length c] w fun e w' => e = .returned (.slice (some ⟨w.heap.size, 0, none⟩) cs.length cs.length) ∧ Row w' w.heap.size 77 (clsU cs) ∧ Upd [] w w' := by
  obtain ⟨i0, hi, hz0, hz1, hz2⟩ := info_parts info77
  go_enter Tryz.func39, Tryz.ntmps39
  go_wp2_with (at_make; refine wpList_make_own _ rfl _ _ 58 rfl w.heap.size 77 i0 (.int .u64 0) 1 Tryz.underlying58 hi hz0 hz1 _ _ _ cs.length rfl rfl rfl ?b1 ?b2 ?b3 ?_)
  case b1 => rw [hz2]; omega
  case b2 => unfold maxLen; omega
  case b3 => exact Nat.le_refl _
  intro w1 hown hgrow
  have hu : Upd [] w w1 := (Upd.refl _ _).grown0 hgrow
  clear hgrow
  go_wp2

  go_loopg [3, 11] (cs.length + 1) (fun k s i wr => ∃ j : Nat, i = .int .i64 j ∧ j ≤ cs.length ∧ s = .slice (some ⟨w.heap.size, 0, none⟩) j cs.length ∧ wr.ownsRow w.heap.size 77 1 (.slice (some ⟨w.heap.size, 0, none⟩) j cs.length) j (clsU (cs.take j)) ∧ Upd [] w wr ∧ Hid (cs.length + 1 - j ≤ k))
  case atStart => exact ⟨0, rfl, by omega, rfl, hown, hu, Nat.le_refl _⟩
  case round =>
    obtain ⟨j, rfl, hj, rfl, hown, hu, hk⟩ := hrel
    by_cases hlt : j < cs.length
    · obtain ⟨g, o, rfl, hc⟩ := (hr.keep hu).num j (by rw [clsI_length]; exact hlt)
      rw [nth_clsI hlt] at hc
      have hT := ht.upd hu (by simp)
      go_wp2_with (first | (go_at_call 50; refine (classOf_any _ _ hT).mono ?_; rintro e w' ⟨rfl, rfl⟩) | (at_builtin; go_must (refine wpList_append_fits _ rfl (.tmp 15) (.tmp 18) 58 rfl w.heap.size 77 i0 1 Tryz.underlying58 hi hz1 w.heap.size j cs.length _ rfl (hown.alloc _) ⟨wr.heap.size, 0, none⟩ 1 1 [.int .u64 (cat cs j).e2] rfl rfl (one_new _ _ _) (one_int _ _) (by omega) ?_); intro w2 hown2 hgrow2))
      have hb : w.heap.size < wr.heap.size := (hown.lt w.heap.size rfl).2
      have hu2 : Upd [] w w2 := (hu.alloc _).grown hgrow2 (fun k e => by cases e; exact .inr (Nat.le_refl _))
      rw [clsU_take_succ hlt] at hown2
      clear hgrow2
      go_roundg (cs.length + 1 - (j + 1))
      case measure => have := hk.out; omega
      case rel => exact ⟨j + 1, by go_num, by omega, rfl, hown2, hu2, Nat.le_refl _⟩
    · obtain rfl : j = cs.length := by omega
      rw [List.take_length] at hown
      have hR := Row.of_owns hown
      go_wp2
      go_ret
      exact ⟨rfl, hR, hu⟩

set_option maxHeartbeats 400000 in
theorem bytesOf_any (A : Option Addr) (c : Nat) (l : List Int) (w : World) (hr : Rd w A (nums .i64 l)) (hm : l.length ≤ 2147483647) (hb : ∀ j, j < l.length → 0 ≤ nth l j ∧ nth l j ≤ 255) :
    Calls Tryz.prog 40 #[.slice A l.length c] w fun e w' => e = .returned (.slice (some ⟨w.heap.size, 0, none⟩) l.length l.length) ∧ Row w' w.heap.size 5 (nums .u8 l) ∧ Upd [] w w' := by
  obtain ⟨i0, hi, hz0, hz1, hz2⟩ := info_parts info5
  have HB := Lib.hid hb; clear hb
  go_enter Tryz.func40, Tryz.ntmps40
  go_wp2_with (at_make; refine wpList_make_own _ rfl _ _ 66 rfl w.heap.size 5 i0 (.int .u8 0) 1 Tryz.underlying66 hi hz0 hz1 _ _ _ l.length rfl rfl rfl ?b1 ?b2 ?b3 ?_)
  case b1 => rw [hz2]; omega
  case b2 => unfold maxLen; omega
  case b3 => exact Nat.le_refl _
  intro w1 hown hgrow
  have hu : Upd [] w w1 := (Upd.refl _ _).grown0 hgrow
  clear hgrow
  go_wp2
  go_loopg [3, 11] (l.length + 1) (fun k s i wr => ∃ j : Nat, i = .int .i64 j ∧ j ≤ l.length ∧ s = .slice (some ⟨w.heap.size, 0, none⟩) j l.length ∧ wr.ownsRow w.heap.size 5 1 (.slice (some ⟨w.heap.size, 0, none⟩) j l.length) j (nums .u8 (l.take j)) ∧ Upd [] w wr ∧ Hid (l.length + 1 - j ≤ k))
  case atStart => exact ⟨0, rfl, by omega, rfl, hown, hu, Nat.le_refl _⟩
  case round =>
    obtain ⟨j, rfl, hj, rfl, hown, hu, hk⟩ := hrel
    by_cases hlt : j < l.length
    · obtain ⟨g, o, rfl, hc⟩ := (hr.keep hu).num j hlt
      have hlo := (HB.out j hlt).1
      have hhi := (HB.out j hlt).2
      have hwr : IntKind.u8.wrap (nth l j) = nth l j := by simp [IntKind.wrap, IntKind.bits, IntKind.signed]; omega
      go_wp2_with (at_builtin; go_must (refine wpList_append_fits _ rfl (.tmp 15) (.tmp 18) 66 rfl w.heap.size 5 i0 1 Tryz.underlying66 hi hz1 w.heap.size j l.length _ rfl (hown.alloc _) ⟨wr.heap.size, 0, none⟩ 1 1 [.int .u8 (nth l j)] rfl rfl (one_new _ _ _) (one_int _ _) (by omega) ?_); intro w2 hown2 hgrow2)
      have hb : w.heap.size < wr.heap.size := (hown.lt w.heap.size rfl).2
      have hu2 : Upd [] w w2 := (hu.alloc _).grown hgrow2 (fun k e => by cases e; exact .inr (Nat.le_refl _))
      rw [nums_take_succ hlt] at hown2
      clear hgrow2
      go_roundg (l.length + 1 - (j + 1))
      case measure => have := hk.out; omega
      case rel => exact ⟨j + 1, by go_num, by omega, rfl, hown2, hu2, Nat.le_refl _⟩
    · obtain rfl : j = l.length := by omega
      rw [List.take_length] at hown
      have hR := Row.of_owns hown
      go_wp2
      go_ret
      exact ⟨rfl, hR, hu⟩

set_option maxHeartbeats 400000 in
theorem runesOf_any (A : Option Addr) (c : Nat) (l : List Int) (w : World) (hr : Rd w A (nums .i64 l)) (hm : l.length ≤ 2147483647) (hb : ∀ j, j < l.length → 0 ≤ nth l j ∧ nth l j ≤ 1114111) :
    Calls Tryz.prog 41 #[.slice A l.length c] w fun e w' => e = .returned (.slice (some ⟨w.heap.size, 0, none⟩) l.length l.length) ∧ Row w' w.heap.size 21 (nums .i32 l) ∧ Upd [] w w' := by
  obtain ⟨i0, hi, hz0, hz1, hz2⟩ := info_parts info21
  have HB := Lib.hid hb; clear hb
  go_enter Tryz.func41, Tryz.ntmps41
  go_wp2_with (at_make; refine wpList_make_own _ rfl _ _ 68 rfl w.heap.size 21 i0 (.int .i32 0) 1 Tryz.underlying68 hi hz0 hz1 _ _ _ l.length rfl rfl rfl ?b1 ?b2 ?b3 ?_)
  case b1 => rw [hz2]; omega
  case b2 => unfold maxLen; omega
  case b3 => exact Nat.le_refl _
  intro w1 hown hgrow
  have hu : Upd [] w w1 := (Upd.refl _ _).grown0 hgrow
  clear hgrow
  go_wp2
  go_loopg [3, 11] (l.length + 1) (fun k s i wr => ∃ j : Nat, i = .int .i64 j ∧ j ≤ l.length ∧ s = .slice (some ⟨w.heap.size, 0, none⟩) j l.length ∧ wr.ownsRow w.heap.size 21 1 (.slice (some ⟨w.heap.size, 0, none⟩) j l.length) j (nums .i32 (l.take j)) ∧ Upd [] w wr ∧ Hid (l.length + 1 - j ≤ k))
  case atStart => exact ⟨0, rfl, by omega, rfl, hown, hu, Nat.le_refl _⟩
  case round =>
    obtain ⟨j, rfl, hj, rfl, hown, hu, hk⟩ := hrel
    by_cases hlt : j < l.length
    · obtain ⟨g, o, rfl, hc⟩ := (hr.keep hu).num j hlt
      have hlo := (HB.out j hlt).1
      have hhi := (HB.out j hlt).2
      have hwr : IntKind.i32.wrap (nth l j) = nth l j := by simp [IntKind.wrap, IntKind.bits, IntKind.signed]; omega
      go_wp2_with (at_builtin; go_must (refine wpList_append_fits _ rfl (.tmp 15) (.tmp 18) 68 rfl w.heap.size 21 i0 1 Tryz.underlying68 hi hz1 w.heap.size j l.length _ rfl (hown.alloc _) ⟨wr.heap.size, 0, none⟩ 1 1 [.int .i32 (nth l j)] rfl rfl (one_new _ _ _) (one_int _ _) (by omega) ?_); intro w2 hown2 hgrow2)
      have hb : w.heap.size < wr.heap.size := (hown.lt w.heap.size rfl).2
      have hu2 : Upd [] w w2 := (hu.alloc _).grown hgrow2 (fun k e => by cases e; exact .inr (Nat.le_refl _))
      rw [nums_take_succ hlt] at hown2
      clear hgrow2
      go_roundg (l.length + 1 - (j + 1))
      case measure => have := hk.out; omega
      case rel => exact ⟨j + 1, by go_num, by omega, rfl, hown2, hu2, Nat.le_refl _⟩
    · obtain rfl : j = l.length := by omega
      rw [List.take_length] at hown
      have hR := Row.of_owns hown
      go_wp2
      go_ret
      exact ⟨rfl, hR, hu⟩

set_option maxHeartbeats 400000 in
theorem largeOf_any (A : Option Addr) (c : Nat) (l : List Int) (w : World) (hr : Rd w A (nums .i8 l)) (hm : l.length ≤ 2147483647) (hb : ∀ j, j < l.length → -128 ≤ nth l j ∧ nth l j ≤ 127) :
    Calls Tryz.prog 43 #[.slice A l.length c] w fun e w' => e = .returned (.slice (some ⟨w.heap.size, 0, none⟩) l.length l.length) ∧ Row w' w.heap.size 3 (nums .i64 l) ∧ Upd [] w w' := by
  obtain ⟨i0, hi, hz0, hz1, hz2⟩ := info_parts info3
  have HB := Lib.hid hb; clear hb
  go_enter Tryz.func43, Tryz.ntmps43
  go_wp2_with (at_make; refine wpList_make_own _ rfl _ _ 22 rfl w.heap.size 3 i0 (.int .i64 0) 1 Tryz.underlying22 hi hz0 hz1 _ _ _ l.length rfl rfl rfl ?b1 ?b2 ?b3 ?_)
  case b1 => rw [hz2]; omega
  case b2 => unfold maxLen; omega
  case b3 => exact Nat.le_refl _
  intro w1 hown hgrow
  have hu : Upd [] w w1 := (Upd.refl _ _).grown0 hgrow
  clear hgrow
  go_wp2
  go_loopg [3, 11] (l.length + 1) (fun k s i wr => ∃ j : Nat, i = .int .i64 j ∧ j ≤ l.length ∧ s = .slice (some ⟨w.heap.size, 0, none⟩) j l.length ∧ wr.ownsRow w.heap.size 3 1 (.slice (some ⟨w.heap.size, 0, none⟩) j l.length) j (nums .i64 (l.take j)) ∧ Upd [] w wr ∧ Hid (l.length + 1 - j ≤ k))
  case atStart => exact ⟨0, rfl, by omega, rfl, hown, hu, Nat.le_refl _⟩
  case round =>
    obtain ⟨j, rfl, hj, rfl, hown, hu, hk⟩ := hrel
    by_cases hlt : j < l.length
    · obtain ⟨g, o, rfl, hc⟩ := (hr.keep hu).num j hlt
      have hlo := (HB.out j hlt).1
      have hhi := (HB.out j hlt).2
      have hwr : wrap64 (nth l j) = nth l j := by unfold wrap64; omega
      go_wp2_with (at_builtin; go_must (refine wpList_append_fits _ rfl (.tmp 15) (.tmp 18) 22 rfl w.heap.size 3 i0 1 Tryz.underlying22 hi hz1 w.heap.size j l.length _ rfl (hown.alloc _) ⟨wr.heap.size, 0, none⟩ 1 1 [.int .i64 (nth l j)] rfl rfl (one_new _ _ _) (one_int _ _) (by omega) ?_); intro w2 hown2 hgrow2)
      have hb : w.heap.size < wr.heap.size := (hown.lt w.heap.size rfl).2
      have hu2 : Upd [] w w2 := (hu.alloc _).grown hgrow2 (fun k e => by cases e; exact .inr (Nat.le_refl _))
      rw [nums_take_succ hlt] at hown2
      clear hgrow2
      go_roundg (l.length + 1 - (j + 1))
      case measure => have := hk.out; omega
      case rel => exact ⟨j + 1, by go_num, by omega, rfl, hown2, hu2, Nat.le_refl _⟩
    · obtain rfl : j = l.length := by omega
      rw [List.take_length] at hown
      have hR := Row.of_owns hown
      go_wp2
      go_ret
      exact ⟨rfl, hR, hu⟩

/-- What is handed back: a slice at the head of a new block that holds vs. -/
def RetRow (w : World) (ty : TypeId) (n : Nat) (vs : List Value) (e : Ending) (w' : World) : Prop :=
  ∃ g c, e = .returned (.slice (some ⟨g, 0, none⟩) n c) ∧ w.heap.size ≤ g ∧ Row w' g ty vs ∧ Upd [] w w'

theorem owns_slice {w : World} {base n size : Nat} {ty : TypeId} {v : Value} {xs : List Value} (h : w.ownsRow base ty size v n xs) (hn : 0 < n) : ∃ g c, v = .slice (some ⟨g, 0, none⟩) n c ∧ base ≤ g := by
  rcases h.2 with ⟨_, h'⟩ | ⟨g, cap, cur, h', hb, _⟩
  · omega
  · exact ⟨g, cap, h', hb⟩

theorem Rd.some {w : World} {A : Option Addr} {vs : List Value} (h : Rd w A vs) (hn : 0 < vs.length) : ∃ g o, A = some ⟨g, o, none⟩ ∧ ∀ j u, vs[j]? = some u → w.cell? ⟨g, o + j, none⟩ = some u := by
  obtain ⟨g, o, e, _⟩ := h 0 hn
  refine ⟨g, o, e, fun j u hj => ?_⟩
  obtain ⟨hj', rfl⟩ := List.getElem?_eq_some_iff.1 hj
  obtain ⟨g', o', e', hc⟩ := h j hj'
  rw [e] at e'
  simp only [Option.some.injEq, Addr.mk.injEq] at e'
  obtain ⟨rfl, rfl, _⟩ := e'
  exact hc

theorem nums_one (k : IntKind) (l : List Int) : ∀ u ∈ nums k l, u.oneCell' = true := by
  intro u hu
  simp only [nums, List.mem_map] at hu
  obtain ⟨_, _, rfl⟩ := hu
  rfl

set_option maxHeartbeats 400000 in
theorem copyOf_any (A : Option Addr) (c : Nat) (l : List Int) (w : World) (hr : Rd w A (nums .i64 l)) (h0 : 0 < l.length) (hm : l.length ≤ 2147483647) :
    Calls Tryz.prog 46 #[.slice A l.length c] w (RetRow w 3 l.length (nums .i64 l)) := by
  obtain ⟨i0, hi, hz0, hz1, hz2⟩ := info_parts info3
  obtain ⟨g, o, rfl, hc⟩ := hr.some (by rw [nums_length]; exact h0)
  have hown := World.ownsRow_lit (base := w.heap.size) (e := 3) (size := 1) w #[] 0 (Nat.le_refl _) (by decide) rfl
  have hlt : g < w.heap.size := by
    have := hc 0 _ (by rw [List.getElem?_eq_getElem (by rw [nums_length]; exact h0)])
    exact World.block_lt_of_cell? w _ this
  have HC : Hid (∀ j u, (nums .i64 l)[j]? = some u → (w.alloc (.cells #[] 3)).cell? ((⟨g, o, none⟩ : Addr).add j) = some u) := by
    intro j u hj
    rw [Addr.add_lit]
    rw [World.cell?_alloc_past _ _ _ hlt]
    exact hc j u hj
  clear hc
  go_enter Tryz.func46, Tryz.ntmps46
  go_wp2_with (at_builtin; go_must (refine wpList_append_own _ rfl (.tmp 3) (.tmp 4) 22 rfl w.heap.size 3 i0 (.int .i64 0) 1 8 Tryz.underlying22 hi hz0 hz1 hz2 rfl (by decide) _ 0 [] rfl hown ⟨g, o, none⟩ l.length c (nums .i64 l) rfl (by rw [nums_length]; omega) HC.out (nums_one _ _) (by unfold maxLen; omega) (by omega) (by simp) ?_); intro v' w' hown' hgrow' _)
  rw [Nat.zero_add, List.nil_append] at hown'
  obtain ⟨g', c', rfl, hg'⟩ := owns_slice hown' h0
  have hR := Row.of_owns hown'
  have hu : Upd [] w w' := ((Upd.refl _ _).alloc _).grown hgrow' (fun k e => by cases e; exact .inr (Nat.le_refl _))
  go_wp2
  go_ret
  exact ⟨g', c', rfl, hg', hR, hu⟩
end Go.Proofs.YtjahmnenfknjgaaGreatDoor
namespace Go.Proofs.YtjahmnenfknjgaaGreatDoor

theorem drop_cat {cs : List Cl} {j : Nat} (h : j < cs.length) : cs.drop j = cat cs j :: cs.drop (j + 1) := by
  rw [List.drop_eq_getElem_cons h, cat_eq h]

/-- Where d + 1 isolates more have been closed than opened: l's first place is k. -/
def clz : Nat → List Cl → Nat → Option Nat
  | _, [], _ => none
  | d, c :: l, k => if c.isInit then clz (d + 1) l (k + 1) else if c = .PDI then (if d = 0 then some k else clz (d - 1) l (k + 1)) else clz d l (k + 1)

theorem clz_init {d : Nat} {c : Cl} {l : List Cl} {k : Nat} (h : c.isInit = true) : clz d (c :: l) k = clz (d + 1) l (k + 1) := by
  rw [clz, if_pos h]
theorem clz_zero {l : List Cl} {k : Nat} : clz 0 (.PDI :: l) k = some k := by
  rw [clz, if_neg (by decide), if_pos rfl, if_pos rfl]
theorem clz_succ {d : Nat} {l : List Cl} {k : Nat} : clz (d + 1) (.PDI :: l) k = clz d l (k + 1) := by
  rw [clz, if_neg (by decide), if_pos rfl, if_neg (by omega), Nat.add_sub_cancel]
theorem clz_other {d : Nat} {c : Cl} {l : List Cl} {k : Nat} (h : c.isInit = false) (h' : c ≠ .PDI) : clz d (c :: l) k = clz d l (k + 1) := by
  rw [clz, if_neg (by simp [h]), if_neg h']
theorem clz_ge : ∀ (l : List Cl) (d k m : Nat), clz d l k = some m → k ≤ m ∧ m < k + l.length
  | [], d, k, m, h => by simp [clz] at h
  | c :: l, d, k, m, h => by
    rw [clz] at h
    have hl : (c :: l).length = l.length + 1 := rfl
    split at h
    · have := clz_ge l _ _ _ h; omega
    split at h
    · split at h
      · simp at h; omega
      · have := clz_ge l _ _ _ h; omega
    · have := clz_ge l _ _ _ h; omega
theorem clz_pdi : ∀ (l : List Cl) (d k m : Nat), clz d l k = some m → l[m - k]? = some .PDI
  | [], d, k, m, h => by simp [clz] at h
  | c :: l, d, k, m, h => by
    rw [clz] at h
    have go : ∀ d', clz d' l (k + 1) = some m → (c :: l)[m - k]? = some .PDI := fun d' h' => by
      have h1 := clz_pdi l _ _ _ h'
      have h2 := clz_ge l _ _ _ h'
      rw [show m - k = (m - (k + 1)) + 1 by omega, List.getElem?_cons_succ]
      exact h1
    split at h
    · exact go _ h
    split at h
    · rename_i hp
      split at h
      · simp at h; subst h; simp [hp]
      · exact go _ h
    · exact go _ h
/-- A deeper isolate is closed first. -/
theorem clz_mono : ∀ (l : List Cl) (d k m : Nat), clz (d + 1) l k = some m → ∃ m', clz d l k = some m' ∧ m' < m
  | [], d, k, m, h => by simp [clz] at h
  | c :: l, d, k, m, h => by
    rw [clz] at h ⊢
    split at h
    · rename_i hc; rw [if_pos hc]; exact clz_mono l _ _ _ h
    · rename_i hc; rw [if_neg hc]
      split at h
      · rename_i hp; rw [if_pos hp]
        rw [if_neg (by omega)] at h
        cases d with
        | zero => exact ⟨k, rfl, by have := clz_ge l _ _ _ h; omega⟩
        | succ d => exact clz_mono l _ _ _ h
      · rename_i hp; rw [if_neg hp]; exact clz_mono l _ _ _ h

/-- The place of the matching PDI of the initiator at i, the length where there is none. -/
def mOf (cs : List Cl) (i : Nat) : Nat := (clz 0 (cs.drop (i + 1)) (i + 1)).getD cs.length
theorem mOf_gt {cs : List Cl} {i : Nat} (h : i < cs.length) : i < mOf cs i := by
  unfold mOf
  cases e : clz 0 (cs.drop (i + 1)) (i + 1) with
  | none => simpa using h
  | some m => have := clz_ge _ _ _ _ e; simp; omega
theorem mOf_le (cs : List Cl) (i : Nat) : mOf cs i ≤ cs.length := by
  unfold mOf
  cases e : clz 0 (cs.drop (i + 1)) (i + 1) with
  | none => simp
  | some m => have := clz_ge _ _ _ _ e; simp at this; simp; omega
theorem mOf_pdi {cs : List Cl} {i : Nat} (h : mOf cs i < cs.length) : cat cs (mOf cs i) = .PDI := by
  unfold mOf at h ⊢
  cases e : clz 0 (cs.drop (i + 1)) (i + 1) with
  | none => simp [e] at h
  | some m =>
    have h1 := clz_pdi _ _ _ _ e
    have h2 := clz_ge _ _ _ _ e
    rw [List.getElem?_drop, show i + 1 + (m - (i + 1)) = m by omega] at h1
    simp [cat, h1]
/-- What the set and the package hold for each place. -/
def mAt (cs : List Cl) (i : Nat) : Int := if (cat cs i).isInit then (mOf cs i : Int) else -1
def mt (cs : List Cl) : List Int := (List.range cs.length).map (mAt cs)
theorem mt_length (cs : List Cl) : (mt cs).length = cs.length := by simp [mt]
theorem nth_mt {cs : List Cl} {i : Nat} (h : i < cs.length) : nth (mt cs) i = mAt cs i := by simp [nth, mt, h]
theorem mAt_init {cs : List Cl} {i : Nat} (h : (cat cs i).isInit = true) : mAt cs i = mOf cs i := by simp [mAt, h]
theorem mAt_other {cs : List Cl} {i : Nat} (h : (cat cs i).isInit = false) : mAt cs i = -1 := by simp [mAt, h]

/-- The set's stack, its top first. -/
structure StkM (cs : List Cl) (j : Nat) (out : List Int) (st : List Nat) : Prop where
  len : out.length = cs.length
  lt : ∀ t, t ∈ st → t < j
  nd : st.Nodup
  ini : ∀ t, t ∈ st → (cat cs t).isInit = true
  pend : ∀ d t, st[d]? = some t → (clz d (cs.drop j) j).getD cs.length = mOf cs t
  done : ∀ q, q < j → q ∉ st → nth out q = mAt cs q
  opn : ∀ q, q ∈ st → nth out q = cs.length

theorem StkM.start (cs : List Cl) : StkM cs 0 (List.replicate cs.length 0) [] :=
  ⟨by simp, by simp, by simp, by simp, by simp, fun q h => by omega, by simp⟩
theorem StkM.other {cs : List Cl} {j : Nat} {out : List Int} {st : List Nat} (h : StkM cs j out st) (hj : j < cs.length) (hi : (cat cs j).isInit = false) (hp : cat cs j ≠ .PDI ∨ st = []) : StkM cs (j + 1) (out.set j (-1)) st := by
  have hns : j ∉ st := fun hm => by have := h.lt j hm; omega
  refine ⟨by simpa using h.len, fun t ht => by have := h.lt t ht; omega, h.nd, h.ini, fun d t ht => ?_, fun q hq hn => ?_, fun q hq => ?_⟩
  · rcases hp with hp | rfl
    · have := h.pend d t ht
      rw [drop_cat hj, clz_other hi hp] at this
      exact this
    · simp at ht
  · by_cases e : q = j
    · subst e; rw [nth_set_self (by rw [h.len]; exact hj), mAt_other hi]
    · rw [nth_set_ne (by omega)]; exact h.done q (by omega) hn
  · rw [nth_set_ne (by rintro rfl; exact hns hq)]; exact h.opn q hq
theorem StkM.push {cs : List Cl} {j : Nat} {out : List Int} {st : List Nat} (h : StkM cs j out st) (hj : j < cs.length) (hi : (cat cs j).isInit = true) : StkM cs (j + 1) ((out.set j (-1)).set j cs.length) (j :: st) := by
  have hns : j ∉ st := fun hm => by have := h.lt j hm; omega
  refine ⟨by simpa using h.len, fun t ht => ?_, List.nodup_cons.2 ⟨hns, h.nd⟩, fun t ht => ?_, fun d t ht => ?_, fun q hq hn => ?_, fun q hq => ?_⟩
  · rcases List.mem_cons.1 ht with rfl | ht
    · omega
    · have := h.lt t ht; omega
  · rcases List.mem_cons.1 ht with rfl | ht
    · exact hi
    · exact h.ini t ht
  · cases d with
    | zero => simp at ht; subst ht; rfl
    | succ d =>
      have := h.pend d t (by simpa using ht)
      rw [drop_cat hj, clz_init hi] at this
      exact this
  · have h1 : q ≠ j := fun e => hn (by simp [e])
    have h2 : q ∉ st := fun e => hn (by simp [e])
    rw [nth_set_ne (by omega), nth_set_ne (by omega)]; exact h.done q (by omega) h2
  · rcases List.mem_cons.1 hq with rfl | hq
    · rw [nth_set_self (by simp [h.len, hj])]
    · rw [nth_set_ne (by rintro rfl; exact hns hq), nth_set_ne (by rintro rfl; exact hns hq)]; exact h.opn q hq
theorem StkM.pop {cs : List Cl} {j t : Nat} {out : List Int} {st : List Nat} (h : StkM cs j out (t :: st)) (hj : j < cs.length) (hp : cat cs j = .PDI) : StkM cs (j + 1) ((out.set j (-1)).set t j) st := by
  have htj := h.lt t (by simp)
  have hnd := List.nodup_cons.1 h.nd
  have hns : j ∉ st := fun hm => by have := h.lt j (by simp [hm]); omega
  refine ⟨by simpa using h.len, fun u hu => by have := h.lt u (by simp [hu]); omega, hnd.2, fun u hu => h.ini u (by simp [hu]), fun d u hu => ?_, fun q hq hn => ?_, fun q hq => ?_⟩
  · have := h.pend (d + 1) u (by simpa using hu)
    rw [drop_cat hj, hp, clz_succ] at this
    exact this
  · by_cases e : q = t
    · subst e
      rw [nth_set_self (by simp [h.len]; omega), mAt_init (h.ini q (by simp))]
      have := h.pend 0 q (by simp)
      rw [drop_cat hj, hp, clz_zero] at this
      rw [← this]; rfl
    · rw [nth_set_ne (by omega)]
      by_cases e' : q = j
      · subst e'; rw [nth_set_self (by simp [h.len, hj]), mAt_other (by rw [hp]; rfl)]
      · rw [nth_set_ne (by omega)]; exact h.done q (by omega) (by simp [e, hn])
  · rw [nth_set_ne (by rintro rfl; exact hnd.1 hq), nth_set_ne (by rintro rfl; exact hns hq)]; exact h.opn q (by simp [hq])
theorem StkM.fin {cs : List Cl} {out : List Int} {st : List Nat} (h : StkM cs cs.length out st) : out = mt cs := by
  apply ext_nth (by rw [h.len, mt_length])
  intro q hq
  rw [h.len] at hq
  rw [nth_mt hq]
  by_cases hm : q ∈ st
  · rw [h.opn q hm, mAt_init (h.ini q hm)]
    obtain ⟨d, hd, e⟩ := List.getElem_of_mem hm
    have := h.pend d q (by rw [List.getElem?_eq_getElem hd, e])
    rw [List.drop_length, clz] at this
    rw [← this]; rfl
  · exact h.done q hq hm

/-! ### The first strong character -/
/-- From place i up to place to, outside of isolates; f rounds at most. -/
def fsF (cs : List Cl) (to : Nat) : Nat → Nat → Option Int
  | 0, _ => none
  | f + 1, i => if i < to then (if cat cs i = .L then some 0 else if cat cs i = .R ∨ cat cs i = .AL then some 1 else if (cat cs i).isInit then fsF cs to f (mOf cs i + 1) else fsF cs to f (i + 1)) else none
def fs (cs : List Cl) (from_ to : Nat) : Option Int := fsF cs to (to + 1 - from_) from_
theorem fsF_more (cs : List Cl) (to : Nat) : ∀ (f g i : Nat), to < i + f → to < i + g → fsF cs to f i = fsF cs to g i
  | 0, 0, _, _, _ => rfl
  | 0, g + 1, i, hf, _ => by simp only [fsF]; rw [if_neg (by omega)]
  | f + 1, 0, i, _, hg => by simp only [fsF]; rw [if_neg (by omega)]
  | f + 1, g + 1, i, hf, hg => by
    simp only [fsF]
    by_cases h : i < to
    · rw [if_pos h, if_pos h]
      by_cases hl : i < cs.length
      · rw [fsF_more cs to f g (i + 1) (by omega) (by omega), fsF_more cs to f g (mOf cs i + 1) (by have := mOf_gt hl; omega) (by have := mOf_gt hl; omega)]
      · have hc : cat cs i = .ON := by simp [cat, List.getElem?_eq_none (show cs.length ≤ i by omega)]
        rw [hc]
        rw [fsF_more cs to f g (i + 1) (by omega) (by omega)]
        rfl
    · rw [if_neg h, if_neg h]
theorem fsF_range (cs : List Cl) (to : Nat) : ∀ (f i : Nat) (v : Int), fsF cs to f i = some v → v = 0 ∨ v = 1
  | 0, _, v, h => by simp [fsF] at h
  | f + 1, i, v, h => by
    simp only [fsF] at h
    split at h
    · split at h
      · simp at h; omega
      split at h
      · simp at h; omega
      split at h
      · exact fsF_range cs to f _ v h
      · exact fsF_range cs to f _ v h
    · simp at h
/-- The embedding level of a paragraph; of an isolate's text. -/
def fsLev (cs : List Cl) (from_ to : Nat) : Int := (fs cs from_ to).getD 0
theorem fsLev_range (cs : List Cl) (a b : Nat) : fsLev cs a b = 0 ∨ fsLev cs a b = 1 := by
  unfold fsLev fs
  cases e : fsF cs b (b + 1 - a) a with
  | none => simp
  | some v => simpa using fsF_range cs b _ _ v e
end Go.Proofs.YtjahmnenfknjgaaGreatDoor
namespace Go.Proofs.YtjahmnenfknjgaaGreatDoor

/-- An entry of the directional status stack. -/
structure Ent where
  lv : Int
  ov : Option Cl
  iso : Bool
/-- The state of X1 to X8; the stack's top first. -/
structure XS where
  st : List Ent
  oi : Nat
  oe : Nat
  vi : Nat
def XS.top (s : XS) : Ent := s.st.headD ⟨0, none, false⟩
/-- The least odd (1) or even (0) level that is greater. -/
def nextLv (l odd : Int) : Int := if (l + 1) % 2 = odd then l + 1 else l + 2
def XS.embed (s : XS) (odd : Int) (ov : Option Cl) : XS :=
  if nextLv s.top.lv odd ≤ 125 ∧ s.oi = 0 ∧ s.oe = 0 then { s with st := ⟨nextLv s.top.lv odd, ov, false⟩ :: s.st }
  else if s.oi = 0 then { s with oe := s.oe + 1 } else s
def XS.begin_ (s : XS) (odd : Int) : XS :=
  if nextLv s.top.lv odd ≤ 125 ∧ s.oi = 0 ∧ s.oe = 0 then { s with st := ⟨nextLv s.top.lv odd, none, true⟩ :: s.st, vi := s.vi + 1 }
  else { s with oi := s.oi + 1 }
/-- Down to the last isolate's entry and past it. -/
def popIso : List Ent → List Ent
  | [] => []
  | e :: r => if e.iso then r else popIso r
def XS.end_ (s : XS) : XS :=
  if 0 < s.oi then { s with oi := s.oi - 1 } else if 0 < s.vi then { s with oe := 0, st := popIso s.st, vi := s.vi - 1 } else s
def XS.pop (s : XS) : XS :=
  if 0 < s.oi then s else if 0 < s.oe then { s with oe := s.oe - 1 } else if s.top.iso = false ∧ 1 < s.st.length then { s with st := s.st.tail } else s

/-- How many isolates' entries lie on the stack. -/
def isos (l : List Ent) : Nat := (l.filter (·.iso)).length
/-- What holds of the stack: its bottom is the paragraph's entry; levels are as deep as their places, and at most 125; valid isolates are counted. -/
structure XOk (base : Int) (s : XS) : Prop where
  ne : ∃ l e, s.st = l ++ [e] ∧ e.iso = false ∧ e.lv = base ∧ e.ov = none
  lv : ∀ l e r, s.st = l ++ e :: r → (r.length : Int) ≤ e.lv ∧ e.lv ≤ 125
  ov : ∀ e, e ∈ s.st → e.ov = none ∨ e.ov = some .L ∨ e.ov = some .R
  vi : s.vi = isos s.st
theorem XOk.pos {base : Int} {s : XS} (h : XOk base s) : 0 < s.st.length := by
  obtain ⟨l, e, hs, _⟩ := h.ne
  simp [hs]
theorem XOk.top {base : Int} {s : XS} (h : XOk base s) : ∃ e r, s.st = e :: r ∧ s.top = e ∧ (r.length : Int) ≤ e.lv ∧ e.lv ≤ 125 := by
  have hp := h.pos
  match hs : s.st, hp with
  | e :: r, _ => exact ⟨e, r, rfl, by simp [XS.top, hs], h.lv [] e r hs⟩
theorem nextLv_gt (l odd : Int) (h : odd = 0 ∨ odd = 1) : l < nextLv l odd ∧ nextLv l odd ≤ l + 2 := by
  unfold nextLv; split <;> omega
theorem XOk.start (base : Int) (h : base = 0 ∨ base = 1) : XOk base ⟨[⟨base, none, false⟩], 0, 0, 0⟩ :=
  ⟨⟨[], _, rfl, rfl, rfl, rfl⟩, fun l e r he => by
    cases l with
    | nil => simp at he; obtain ⟨rfl, rfl⟩ := he; simp; omega
    | cons a l => simp at he, fun e he => by simp at he; subst he; simp, rfl⟩
theorem XOk.push {base : Int} {s : XS} (h : XOk base s) {n : Int} {ov : Option Cl} {iso : Bool} {oi oe : Nat} (h1 : s.top.lv < n) (h2 : n ≤ 125) (ha : ov = none ∨ ov = some .L ∨ ov = some .R) :
    XOk base ⟨⟨n, ov, iso⟩ :: s.st, oi, oe, if iso then s.vi + 1 else s.vi⟩ := by
  obtain ⟨l, e, hs, hi, hl, hn⟩ := h.ne
  obtain ⟨e0, r0, hs0, ht, hlv, _⟩ := h.top
  refine ⟨⟨⟨n, ov, iso⟩ :: l, e, by simp [hs], hi, hl, hn⟩, fun l' e' r' he => ?_, fun e' he' => ?_, ?_⟩
  · cases l' with
    | nil => simp at he; obtain ⟨rfl, rfl⟩ := he; rw [ht] at h1; simp [hs0]; omega
    | cons a l' => simp at he; exact h.lv l' e' r' he.2
  · rcases List.mem_cons.1 he' with rfl | hm
    · exact ha
    · exact h.ov e' hm
  · cases iso <;> simp [isos, h.vi]
theorem XOk.embed {base : Int} {s : XS} (h : XOk base s) {odd : Int} {ov : Option Cl} (ho : odd = 0 ∨ odd = 1) (ha : ov = none ∨ ov = some .L ∨ ov = some .R) : XOk base (s.embed odd ov) := by
  unfold XS.embed
  split
  · rename_i hc; exact h.push (iso := false) (nextLv_gt _ _ ho).1 hc.1 ha
  split
  · exact ⟨h.ne, h.lv, h.ov, h.vi⟩
  · exact h
theorem XOk.begin_ {base : Int} {s : XS} (h : XOk base s) {odd : Int} (ho : odd = 0 ∨ odd = 1) : XOk base (s.begin_ odd) := by
  unfold XS.begin_
  split
  · rename_i hc; exact h.push (iso := true) (nextLv_gt _ _ ho).1 hc.1 (.inl rfl)
  · exact ⟨h.ne, h.lv, h.ov, h.vi⟩
/-- One entry that is no isolate's goes. -/
theorem XOk.drop {base : Int} {e : Ent} {r : List Ent} {oi oe vi : Nat} (h : XOk base ⟨e :: r, oi, oe, vi⟩) (hr : r ≠ []) {oi' oe' : Nat} : XOk base ⟨r, oi', oe', if e.iso then vi - 1 else vi⟩ := by
  obtain ⟨l, b, hs, hi, hl, hn⟩ := h.ne
  refine ⟨?_, fun l' e' r' he => h.lv (e :: l') e' r' (by simp at he; simp [he]), fun e' he' => h.ov e' (by simp at he' ⊢; exact .inr he'), ?_⟩
  · cases l with
    | nil => simp at hs; exact absurd hs.2 hr
    | cons a l => simp at hs; exact ⟨l, b, hs.2, hi, hl, hn⟩
  · have := h.vi
    simp only [isos] at this ⊢
    cases he : e.iso <;> simp [he] at this ⊢ <;> omega
theorem isos_last {l : List Ent} {b : Ent} (hb : b.iso = false) : isos (l ++ [b]) = isos l := by simp [isos, hb]
theorem XOk.popIso_aux {base : Int} : ∀ (r : List Ent) (oi oe vi : Nat), XOk base ⟨r, oi, oe, vi⟩ → 0 < vi → ∀ oi' oe' : Nat, XOk base ⟨popIso r, oi', oe', vi - 1⟩
  | [], _, _, _, h, _, _, _ => absurd h.pos (by simp)
  | e :: r, oi, oe, vi, h, hv, oi', oe' => by
    have hr : r ≠ [] := by
      rintro rfl
      obtain ⟨l, b, hs, hi, _⟩ := h.ne
      cases l with
      | nil =>
        simp at hs; subst hs
        have := h.vi
        simp [isos, hi] at this
        omega
      | cons a l => simp at hs
    have hd := h.drop hr (oi' := oi') (oe' := oe')
    unfold popIso
    cases he : e.iso with
    | true => rw [if_pos rfl]; simpa [he] using hd
    | false =>
      rw [if_neg (by simp)]
      exact XOk.popIso_aux r oi' oe' vi (by simpa [he] using hd) hv oi' oe'
theorem XOk.end_ {base : Int} {s : XS} (h : XOk base s) : XOk base s.end_ := by
  unfold XS.end_
  split
  · exact ⟨h.ne, h.lv, h.ov, h.vi⟩
  split
  · rename_i hv; exact XOk.popIso_aux s.st s.oi s.oe s.vi h hv _ _
  · exact h
theorem XOk.pop {base : Int} {s : XS} (h : XOk base s) : XOk base s.pop := by
  unfold XS.pop
  split
  · exact h
  split
  · exact ⟨h.ne, h.lv, h.ov, h.vi⟩
  split
  · rename_i hc
    obtain ⟨e, r, hs, ht, _⟩ := h.top
    obtain ⟨st, oi, oe, vi⟩ := s
    simp only at hs hc
    subst hs
    have hr : r ≠ [] := by rintro rfl; simp at hc
    have := h.drop hr (oi' := oi) (oe' := oe)
    have he : e.iso = false := by have := hc.1; rw [ht] at this; exact this
    simpa [he] using this
  · exact h

/-- One character's step. -/
def xstep (cs : List Cl) (i : Nat) (s : XS) : XS :=
  match cat cs i with
  | .RLE => s.embed 1 none
  | .LRE => s.embed 0 none
  | .RLO => s.embed 1 (some .R)
  | .LRO => s.embed 0 (some .L)
  | .PDF => s.pop
  | .PDI => s.end_
  | .RLI => s.begin_ 1
  | .LRI => s.begin_ 0
  | .FSI => s.begin_ (fsLev cs (i + 1) (mOf cs i))
  | _ => s
/-- The state ahead of place i. -/
def xs (cs : List Cl) (base : Int) : Nat → XS
  | 0 => ⟨[⟨base, none, false⟩], 0, 0, 0⟩
  | i + 1 => xstep cs i (xs cs base i)
theorem xstep_ok {cs : List Cl} {base : Int} {i : Nat} {s : XS} (h : XOk base s) : XOk base (xstep cs i s) := by
  unfold xstep
  split
  · exact h.embed (.inr rfl) (.inl rfl)
  · exact h.embed (.inl rfl) (.inl rfl)
  · exact h.embed (.inr rfl) (.inr (.inr rfl))
  · exact h.embed (.inl rfl) (.inr (.inl rfl))
  · exact h.pop
  · exact h.end_
  · exact h.begin_ (.inr rfl)
  · exact h.begin_ (.inl rfl)
  · exact h.begin_ (fsLev_range _ _ _)
  · exact h
theorem xs_ok (cs : List Cl) {base : Int} (h : base = 0 ∨ base = 1) : ∀ i, XOk base (xs cs base i)
  | 0 => XOk.start base h
  | i + 1 => xstep_ok (xs_ok cs h i)
/-- The entry that rules place i: behind a PDI's end. -/
def xtop (cs : List Cl) (base : Int) (i : Nat) : Ent := if cat cs i = .PDI then (xs cs base i).end_.top else (xs cs base i).top
/-- The level of place i (X9's are removed: -1), and its class. -/
def xlv (cs : List Cl) (base : Int) (i : Nat) : Int := if (cat cs i).isRem then -1 else if cat cs i = .B then base else (xtop cs base i).lv
def xty (cs : List Cl) (base : Int) (i : Nat) : Cl := if (cat cs i).isRem then cat cs i else if cat cs i = .B then .B else (xtop cs base i).ov.getD (cat cs i)
def lvs (cs : List Cl) (base : Int) : List Int := (List.range cs.length).map (xlv cs base)
def tys (cs : List Cl) (base : Int) : List Cl := (List.range cs.length).map (xty cs base)
theorem lvs_length (cs : List Cl) (base : Int) : (lvs cs base).length = cs.length := by simp [lvs]
theorem tys_length (cs : List Cl) (base : Int) : (tys cs base).length = cs.length := by simp [tys]
theorem nth_lvs {cs : List Cl} {base : Int} {i : Nat} (h : i < cs.length) : nth (lvs cs base) i = xlv cs base i := by simp [nth, lvs, h]
theorem cat_tys {cs : List Cl} {base : Int} {i : Nat} (h : i < cs.length) : cat (tys cs base) i = xty cs base i := by simp [cat, tys, h]

theorem XS.embed_cnt (s : XS) (odd : Int) (ov : Option Cl) {k : Nat} (h : s.oi ≤ k ∧ s.oe ≤ k ∧ s.vi ≤ k) : (s.embed odd ov).oi ≤ k + 1 ∧ (s.embed odd ov).oe ≤ k + 1 ∧ (s.embed odd ov).vi ≤ k + 1 := by
  unfold XS.embed; split
  · simp only; omega
  split
  · simp only; omega
  · omega
theorem XS.begin_cnt (s : XS) (odd : Int) {k : Nat} (h : s.oi ≤ k ∧ s.oe ≤ k ∧ s.vi ≤ k) : (s.begin_ odd).oi ≤ k + 1 ∧ (s.begin_ odd).oe ≤ k + 1 ∧ (s.begin_ odd).vi ≤ k + 1 := by
  unfold XS.begin_; split
  · simp only; omega
  · simp only; omega
theorem XS.end_cnt (s : XS) {k : Nat} (h : s.oi ≤ k ∧ s.oe ≤ k ∧ s.vi ≤ k) : s.end_.oi ≤ k ∧ s.end_.oe ≤ k ∧ s.end_.vi ≤ k := by
  unfold XS.end_; split
  · simp only; omega
  split
  · simp only; omega
  · omega
theorem XS.pop_cnt (s : XS) {k : Nat} (h : s.oi ≤ k ∧ s.oe ≤ k ∧ s.vi ≤ k) : s.pop.oi ≤ k ∧ s.pop.oe ≤ k ∧ s.pop.vi ≤ k := by
  unfold XS.pop; split
  · omega
  split
  · simp only; omega
  split
  · simp only; omega
  · omega
theorem xstep_cnt (cs : List Cl) (i : Nat) (s : XS) {k : Nat} (h : s.oi ≤ k ∧ s.oe ≤ k ∧ s.vi ≤ k) : (xstep cs i s).oi ≤ k + 1 ∧ (xstep cs i s).oe ≤ k + 1 ∧ (xstep cs i s).vi ≤ k + 1 := by
  have hp := XS.pop_cnt s h
  have he := XS.end_cnt s h
  unfold xstep
  split
  · exact XS.embed_cnt _ _ _ h
  · exact XS.embed_cnt _ _ _ h
  · exact XS.embed_cnt _ _ _ h
  · exact XS.embed_cnt _ _ _ h
  · omega
  · omega
  · exact XS.begin_cnt _ _ h
  · exact XS.begin_cnt _ _ h
  · exact XS.begin_cnt _ _ h
  · omega
theorem xs_cnt (cs : List Cl) (base : Int) : ∀ k, (xs cs base k).oi ≤ k ∧ (xs cs base k).oe ≤ k ∧ (xs cs base k).vi ≤ k
  | 0 => ⟨Nat.le_refl _, Nat.le_refl _, Nat.le_refl _⟩
  | k + 1 => xstep_cnt cs k _ (xs_cnt cs base k)

/-- Neither formatting, nor removed, nor a separator of paragraphs. -/
def plain : Cl → Bool
  | .L => true | .R => true | .EN => true | .ES => true | .ET => true | .AN => true | .CS => true | .S => true | .WS => true | .ON => true | .NSM => true | .AL => true
  | _ => false
theorem xstep_plain {cs : List Cl} {i : Nat} {s : XS} (h : plain (cat cs i) = true) : xstep cs i s = s := by
  unfold xstep; cases hc : cat cs i <;> simp [hc, plain] at h ⊢
theorem xlv_plain {cs : List Cl} {base : Int} {i : Nat} (h : plain (cat cs i) = true) : xlv cs base i = (xs cs base i).top.lv := by
  unfold xlv xtop; cases hc : cat cs i <;> simp [hc, plain, Cl.isRem] at h ⊢
theorem xty_plain {cs : List Cl} {base : Int} {i : Nat} (h : plain (cat cs i) = true) : xty cs base i = (xs cs base i).top.ov.getD (cat cs i) := by
  unfold xty xtop; cases hc : cat cs i <;> simp [hc, plain, Cl.isRem] at h ⊢
theorem plain_tests {c : Cl} (h : plain c = true) : (c.e1 == 22) = false ∧ (c.e1 == 17) = false ∧ (c.e1 == 16) = false ∧ (c.e1 == 15) = false ∧ (c.e1 == 14) = false ∧ (c.e1 == 18) = false ∧ (c.e1 == 20) = false ∧ (c.e1 == 19) = false ∧ (c.e1 == 21) = false ∧ ((c.e1 == 7) = false ∧ (c.e1 != 7) = true) ∧ c.isRem = false := by
  cases c <;> first | (exact absurd h (by decide)) | decide
end Go.Proofs.YtjahmnenfknjgaaGreatDoor
namespace Go.Proofs.YtjahmnenfknjgaaGreatDoor

/-- The embedding direction of a level. -/
def dirOf (l : Int) : Cl := if l % 2 = 1 then .R else .L
/-- The last level ahead of place p that is not -1. -/
def befLv (lv : List Int) (base : Int) : Nat → Int
  | 0 => base
  | p + 1 => if nth lv p = -1 then befLv lv base p else nth lv p
/-- The first level from place p on that is not -1. -/
def aftLv (lv : List Int) (base : Int) (p : Nat) : Int := ((lv.drop p).find? (fun x => x != -1)).getD base
theorem aftLv_yes {lv : List Int} {base : Int} {p : Nat} (h : p < lv.length) (h' : nth lv p ≠ -1) : aftLv lv base p = nth lv p := by
  unfold aftLv
  rw [List.drop_eq_getElem_cons h, nth_eq h, List.find?_cons_of_pos (by simpa using h')]
  rfl
theorem aftLv_no {lv : List Int} {base : Int} {p : Nat} (h : p < lv.length) (h' : nth lv p = -1) : aftLv lv base p = aftLv lv base (p + 1) := by
  unfold aftLv
  rw [List.drop_eq_getElem_cons h, nth_eq h, List.find?_cons_of_neg (by simpa using h')]
theorem aftLv_end {lv : List Int} {base : Int} {p : Nat} (h : lv.length ≤ p) : aftLv lv base p = base := by
  unfold aftLv
  rw [List.drop_eq_nil_of_le h]; rfl
/-- A list's numbers at some places. -/
def pick (l : List Int) (ps : List Nat) : List Int := ps.map (nth l)
theorem pick_length (l : List Int) (ps : List Nat) : (pick l ps).length = ps.length := by simp [pick]
theorem pick_take_succ {l : List Int} {ps : List Nat} {j : Nat} (h : j < ps.length) : pick l (ps.take j) ++ [nth l (nat ps j)] = pick l (ps.take (j + 1)) := by
  unfold pick
  rw [List.take_succ_eq_append_getElem h, List.map_append, nat_eq h]; rfl
/-- Brackets in one list: positive where they open, negative where they close. -/
def signed (ks vs : List Int) : List Int := (List.range ks.length).map fun j => if nth ks j = 1 then nth vs j else if nth ks j = 2 then - nth vs j else 0
theorem signed_length (ks vs : List Int) : (signed ks vs).length = ks.length := by simp [signed]
theorem nth_signed {ks vs : List Int} {j : Nat} (h : j < ks.length) : nth (signed ks vs) j = if nth ks j = 1 then nth vs j else if nth ks j = 2 then - nth vs j else 0 := by simp [nth, signed, h]
/-- A PDI or a mark whose class an override resets. -/
def ClosP (cs : List Cl) (base : Int) : Prop := ∃ i, i < cs.length ∧ (cat cs i = .PDI ∨ cat cs i = .NSM) ∧ cat (tys cs base) i ≠ cat cs i
end Go.Proofs.YtjahmnenfknjgaaGreatDoor
namespace Go.Proofs.YtjahmnenfknjgaaGreatDoor

def lst (n : Nat) (f : Nat → Cl) : List Cl := (List.range n).map f
theorem lst_length (n : Nat) (f : Nat → Cl) : (lst n f).length = n := by simp [lst]
theorem cat_lst {n : Nat} {f : Nat → Cl} {i : Nat} (h : i < n) : cat (lst n f) i = f i := by simp [cat, lst, h]
theorem eq_lst {n : Nat} {f : Nat → Cl} {l : List Cl} (hl : l.length = n) (h : ∀ q, q < n → cat l q = f q) : l = lst n f :=
  ext_cat (by rw [hl, lst_length]) fun q hq => by rw [hl] at hq; rw [h q hq, cat_lst hq]

/-- The last L, R or AL ahead of place k, sos if there is none. -/
def sb (l : List Cl) (st : Cl) : Nat → Cl
  | 0 => st
  | k + 1 => if cat l k = .L ∨ cat l k = .R ∨ cat l k = .AL then cat l k else sb l st k
/-- W1. -/
def mkS (l : List Cl) (st : Cl) : Nat → Cl
  | 0 => if cat l 0 = .NSM then st else cat l 0
  | i + 1 => if cat l (i + 1) = .NSM then (if (mkS l st i).isInit ∨ mkS l st i = .PDI then .ON else mkS l st i) else cat l (i + 1)
/-- W2, W3. -/
def w2 (l : List Cl) (st : Cl) (i : Nat) : Cl := if cat l i = .EN ∧ sb l st i = .AL then .AN else cat l i
def w3 (l : List Cl) (i : Nat) : Cl := if cat l i = .AL then .R else cat l i
/-- W4. -/
def w4 (l : List Cl) : Nat → Cl
  | 0 => cat l 0
  | i + 1 => if i + 2 < l.length ∧ w4 l i = cat l (i + 2) ∧ ((cat l (i + 1) = .ES ∧ w4 l i = .EN) ∨ (cat l (i + 1) = .CS ∧ (w4 l i = .EN ∨ w4 l i = .AN))) then w4 l i else cat l (i + 1)
/-- Is what stands ahead of place k, terminators aside, a number? And from place k on? -/
def pe (l : List Cl) : Nat → Bool
  | 0 => false
  | k + 1 => if cat l k = .ET then pe l k else decide (cat l k = .EN)
def neL : List Cl → Bool
  | [] => false
  | c :: r => if c = .ET then neL r else decide (c = .EN)
def ne (l : List Cl) (k : Nat) : Bool := neL (l.drop k)
theorem ne_et {l : List Cl} {k : Nat} (h : k < l.length) (h' : cat l k = .ET) : ne l k = ne l (k + 1) := by
  unfold ne; rw [drop_cat h, neL, if_pos h']
theorem ne_not {l : List Cl} {k : Nat} (h : k < l.length) (h' : cat l k ≠ .ET) : ne l k = decide (cat l k = .EN) := by
  unfold ne; rw [drop_cat h, neL, if_neg h']
theorem ne_end {l : List Cl} {k : Nat} (h : l.length ≤ k) : ne l k = false := by
  unfold ne; rw [List.drop_eq_nil_of_le h]; rfl
/-- W5. -/
def w5 (l : List Cl) (i : Nat) : Cl := if cat l i = .ET ∧ (pe l i = true ∨ ne l i = true) then .EN else cat l i
/-- W6, W7. -/
def w6 (l : List Cl) (i : Nat) : Cl := if cat l i = .ES ∨ cat l i = .ET ∨ cat l i = .CS then .ON else cat l i
def w7 (l : List Cl) (st : Cl) (i : Nat) : Cl := if cat l i = .EN ∧ sb l st i = .L then .L else cat l i

def marksS (l : List Cl) (st : Cl) : List Cl := lst l.length (mkS l st)
def w2L (l : List Cl) (st : Cl) : List Cl := lst l.length (w2 l st)
def w3L (l : List Cl) : List Cl := lst l.length (w3 l)
def w4L (l : List Cl) : List Cl := lst l.length (w4 l)
def w5L (l : List Cl) : List Cl := lst l.length (w5 l)
def w6L (l : List Cl) : List Cl := lst l.length (w6 l)
def w7L (l : List Cl) (st : Cl) : List Cl := lst l.length (w7 l st)
/-- All behind the marks. -/
def weakR (l : List Cl) (st : Cl) : List Cl := w7L (w6L (w5L (w4L (w3L (w2L l st))))) st
def weakS (l : List Cl) (st : Cl) : List Cl := weakR (marksS l st) st
theorem marksS_length (l : List Cl) (st : Cl) : (marksS l st).length = l.length := lst_length _ _
theorem w2L_length (l : List Cl) (st : Cl) : (w2L l st).length = l.length := lst_length _ _
theorem w3L_length (l : List Cl) : (w3L l).length = l.length := lst_length _ _
theorem w4L_length (l : List Cl) : (w4L l).length = l.length := lst_length _ _
theorem w5L_length (l : List Cl) : (w5L l).length = l.length := lst_length _ _
theorem w6L_length (l : List Cl) : (w6L l).length = l.length := lst_length _ _
theorem w7L_length (l : List Cl) (st : Cl) : (w7L l st).length = l.length := lst_length _ _
theorem weakR_length (l : List Cl) (st : Cl) : (weakR l st).length = l.length := by simp only [weakR, w7L_length, w6L_length, w5L_length, w4L_length, w3L_length, w2L_length]
theorem weakS_length (l : List Cl) (st : Cl) : (weakS l st).length = l.length := by simp only [weakS, weakR_length, marksS_length]

/-- What W2 and W7 turn as they go changes nothing of what they find. -/
theorem sb_w2 {l m : List Cl} {st : Cl} : ∀ k, (∀ q, q < k → cat m q = w2 l st q) → sb m st k = sb l st k
  | 0, _ => rfl
  | k + 1, h => by
    have ih := sb_w2 k fun q hq => h q (by omega)
    have hk := h k (by omega)
    simp only [sb]
    rw [hk, ih]
    unfold w2
    by_cases e : cat l k = .EN ∧ sb l st k = .AL
    · rw [if_pos e, e.1]; simp
    · rw [if_neg e]
theorem sb_w7 {l m : List Cl} {st : Cl} : ∀ k, (∀ q, q < k → cat m q = w7 l st q) → sb m st k = sb l st k
  | 0, _ => rfl
  | k + 1, h => by
    have ih := sb_w7 k fun q hq => h q (by omega)
    have hk := h k (by omega)
    simp only [sb]
    rw [hk, ih]
    unfold w7
    by_cases e : cat l k = .EN ∧ sb l st k = .L
    · rw [if_pos e, e.1]; simp [e.2]
    · rw [if_neg e]
theorem sb_strong (l : List Cl) {st : Cl} (h : st = .L ∨ st = .R ∨ st = .AL) : ∀ k, sb l st k = .L ∨ sb l st k = .R ∨ sb l st k = .AL
  | 0 => h
  | k + 1 => by
    simp only [sb]
    split
    · assumption
    · exact sb_strong l h k
end Go.Proofs.YtjahmnenfknjgaaGreatDoor
namespace Go.Proofs.YtjahmnenfknjgaaGreatDoor

/-- L or R for a type that counts as one in N0 to N2. -/
def stg : Cl → Option Cl
  | .L => some .L | .R => some .R | .EN => some .R | .AN => some .R | _ => none
/-- Is there a strong type between two places that is 'way'; one that is not? -/
def InsSame (l : List Cl) (a b : Nat) (way : Cl) : Prop := ∃ i, a < i ∧ i < b ∧ stg (cat l i) = some way
def InsOther (l : List Cl) (a b : Nat) (way : Cl) : Prop := ∃ i, a < i ∧ i < b ∧ ∃ x, stg (cat l i) = some x ∧ x ≠ way
/-- The last strong type ahead of place k. -/
def ctx (l : List Cl) (st : Cl) : Nat → Cl
  | 0 => st
  | k + 1 => (stg (cat l k)).getD (ctx l st k)

/-! ### BD16 -/
/-- The stack, its top first, down to an opening bracket of value v: that one, and what lies below it. -/
def popTo (br : List Int) (v : Int) : List Nat → Option (Nat × List Nat)
  | [] => none
  | s :: r => if nth br s = v then some (s, r) else popTo br v r
structure PSt where
  stk : List Nat
  cl : List Int
def pstep (l : List Cl) (br : List Int) (s : PSt) (i : Nat) : PSt :=
  if cat l i = .ON then
    if 0 < nth br i then { s with stk := i :: s.stk }
    else if nth br i < 0 then (match popTo br (- nth br i) s.stk with | some (a, r) => ⟨r, s.cl.set a i⟩ | none => s)
    else s
  else s
def pst (l : List Cl) (br : List Int) : Nat → PSt
  | 0 => ⟨[], List.replicate l.length 0⟩
  | i + 1 => pstep l br (pst l br i) i
/-- The pairs, by their opening brackets. -/
def prsOf (cl : List Int) (n : Nat) : List (Nat × Nat) := (List.range n).filterMap fun i => if 0 < nth cl i then some (i, (nth cl i).toNat) else none
def prs (l : List Cl) (br : List Int) : List (Nat × Nat) := prsOf (pst l br l.length).cl l.length

/-! ### N0 -/
/-- The marks from place k on get the type t. -/
def fillN (ini : List Cl) (t : Cl) : Nat → Nat → List Cl → List Cl
  | 0, _, out => out
  | f + 1, k, out => if k < out.length ∧ cat ini k = .NSM then fillN ini t f (k + 1) (out.set k t) else out
def nset (ini : List Cl) (t : Cl) (i : Nat) (out : List Cl) : List Cl := fillN ini t out.length (i + 1) (out.set i t)
open Classical in
noncomputable def nstep (ini : List Cl) (way st : Cl) (out : List Cl) (p : Nat × Nat) : List Cl :=
  if InsSame out p.1 p.2 way ∨ InsOther out p.1 p.2 way then
    nset ini (if InsSame out p.1 p.2 way then way else ctx out st p.1) p.2 (nset ini (if InsSame out p.1 p.2 way then way else ctx out st p.1) p.1 out)
  else out
noncomputable def brS (l ini : List Cl) (br : List Int) (level : Int) (st : Cl) : List Cl := (prs l br).foldl (nstep ini (dirOf level) st) l

/-! ### N1, N2 -/
def stR (c : Cl) : Cl := if c = .L then .L else .R
def nb (l : List Cl) (sos : Cl) : Nat → Cl
  | 0 => sos
  | k + 1 => if (cat l k).isNI then nb l sos k else stR (cat l k)
def naL (eos : Cl) : List Cl → Cl
  | [] => eos
  | c :: r => if c.isNI then naL eos r else stR c
def na (l : List Cl) (eos : Cl) (k : Nat) : Cl := naL eos (l.drop k)
theorem na_ni {l : List Cl} {eos : Cl} {k : Nat} (h : k < l.length) (h' : (cat l k).isNI = true) : na l eos k = na l eos (k + 1) := by
  unfold na; rw [drop_cat h, naL, if_pos h']
theorem na_not {l : List Cl} {eos : Cl} {k : Nat} (h : k < l.length) (h' : (cat l k).isNI = false) : na l eos k = stR (cat l k) := by
  unfold na; rw [drop_cat h, naL, if_neg (by simp [h'])]
theorem na_end {l : List Cl} {eos : Cl} {k : Nat} (h : l.length ≤ k) : na l eos k = eos := by
  unfold na; rw [List.drop_eq_nil_of_le h]; rfl
def n12 (l : List Cl) (level : Int) (sos eos : Cl) (i : Nat) : Cl :=
  if (cat l i).isNI then (if nb l sos i = na l eos (i + 1) then nb l sos i else dirOf level) else cat l i
def neuS (l : List Cl) (level : Int) (sos eos : Cl) : List Cl := lst l.length (n12 l level sos eos)
theorem neuS_length (l : List Cl) (level : Int) (sos eos : Cl) : (neuS l level sos eos).length = l.length := lst_length _ _
/-- What N0 to N2 meet; what I1 and I2 meet. -/
def isN (c : Cl) : Bool := c.isNI || c == .L || c == .R || c == .EN || c == .AN
theorem stg_isN {c : Cl} (h : isN c = true) (h' : c.isNI = false) : stg c = some (stR c) := by cases c <;> simp [isN, Cl.isNI, stg, stR] at h h' ⊢

/-! ### I1, I2 -/
def ilv (level : Int) (c : Cl) : Int :=
  if level % 2 = 0 then (if c = .R then level + 1 else if c = .AN ∨ c = .EN then level + 2 else level) else (if c = .R then level else level + 1)
def impS (l : List Cl) (level : Int) : List Int := l.map (ilv level)
theorem impS_length (l : List Cl) (level : Int) : (impS l level).length = l.length := by simp [impS]

theorem fillN_length (ini : List Cl) (t : Cl) : ∀ (f k : Nat) (out : List Cl), (fillN ini t f k out).length = out.length
  | 0, _, _ => rfl
  | f + 1, k, out => by
    simp only [fillN]
    split
    · rw [fillN_length]; simp
    · rfl
theorem nset_length (ini : List Cl) (t : Cl) (i : Nat) (out : List Cl) : (nset ini t i out).length = out.length := by
  unfold nset; rw [fillN_length]; simp
theorem nstep_length (ini : List Cl) (way st : Cl) (out : List Cl) (p : Nat × Nat) : (nstep ini way st out p).length = out.length := by
  unfold nstep; split
  · rw [nset_length, nset_length]
  · rfl
theorem foldl_nstep_length (ini : List Cl) (way st : Cl) (ps : List (Nat × Nat)) : ∀ out, (ps.foldl (nstep ini way st) out).length = out.length := by
  induction ps with
  | nil => intro out; rfl
  | cons p ps ih => intro out; rw [List.foldl_cons, ih, nstep_length]
theorem brS_length (l ini : List Cl) (br : List Int) (level : Int) (st : Cl) : (brS l ini br level st).length = l.length := foldl_nstep_length _ _ _ _ _

/-! ### The stack of BD16 -/
theorem popTo_skip {br : List Int} {v : Int} {s : Nat} {r : List Nat} (h : nth br s ≠ v) : popTo br v (s :: r) = popTo br v r := by rw [popTo, if_neg h]
theorem popTo_hit {br : List Int} {v : Int} {s : Nat} {r : List Nat} (h : nth br s = v) : popTo br v (s :: r) = some (s, r) := by rw [popTo, if_pos h]
theorem popTo_sub {br : List Int} {v : Int} : ∀ {l : List Nat} {s : Nat} {r : List Nat}, popTo br v l = some (s, r) → ∃ pre, l = pre ++ s :: r ∧ nth br s = v
  | [], s, r, h => by simp [popTo] at h
  | x :: l, s, r, h => by
    rw [popTo] at h
    split at h
    · simp at h; obtain ⟨rfl, rfl⟩ := h; exact ⟨[], rfl, by assumption⟩
    · obtain ⟨pre, e, hv⟩ := popTo_sub h; exact ⟨x :: pre, by rw [e]; rfl, hv⟩
theorem pstep_cl (l : List Cl) (br : List Int) (s : PSt) (i : Nat) : (pstep l br s i).cl.length = s.cl.length := by
  unfold pstep
  split
  · split
    · rfl
    split
    · split <;> simp
    · rfl
  · rfl
theorem pst_cl (l : List Cl) (br : List Int) : ∀ i, (pst l br i).cl.length = l.length
  | 0 => by simp [pst]
  | i + 1 => by rw [pst, pstep_cl, pst_cl l br i]
theorem pst_lt (l : List Cl) (br : List Int) : ∀ i s, s ∈ (pst l br i).stk → s < i
  | 0, s, h => by simp [pst] at h
  | i + 1, s, h => by
    have ih := pst_lt l br i
    rw [pst, pstep] at h
    split at h
    · split at h
      · rcases List.mem_cons.1 h with rfl | h
        · omega
        · have := ih s h; omega
      split at h
      · cases e : popTo br (- nth br i) (pst l br i).stk with
        | none => rw [e] at h; have := ih s h; omega
        | some ar =>
          rw [e] at h
          obtain ⟨pre, e', _⟩ := popTo_sub (s := ar.1) (r := ar.2) e
          have := ih s (by rw [e']; simp; exact .inr (.inr h)); omega
      · have := ih s h; omega
    · have := ih s h; omega
theorem pst_len (l : List Cl) (br : List Int) : ∀ i, (pst l br i).stk.length ≤ i
  | 0 => by simp [pst]
  | i + 1 => by
    have ih := pst_len l br i
    rw [pst, pstep]
    split
    · split
      · simp; omega
      split
      · cases e : popTo br (- nth br i) (pst l br i).stk with
        | none => simp only; omega
        | some ar =>
          obtain ⟨pre, e', _⟩ := popTo_sub (s := ar.1) (r := ar.2) e
          rw [e'] at ih
          simp at ih ⊢
          omega
      · omega
    · omega
/-- What the closers are: places behind their openers. -/
theorem pst_val (l : List Cl) (br : List Int) : ∀ i q, nth (pst l br i).cl q = 0 ∨ ∃ c : Nat, nth (pst l br i).cl q = c ∧ q < c ∧ c < i
  | 0, q => by
    left; simp only [pst, nth, List.getD_eq_getElem?_getD, List.getElem?_replicate]; split <;> rfl
  | i + 1, q => by
    have ih := pst_val l br i q
    have up : (nth (pst l br i).cl q = 0 ∨ ∃ c : Nat, nth (pst l br i).cl q = c ∧ q < c ∧ c < i) → (nth (pst l br i).cl q = 0 ∨ ∃ c : Nat, nth (pst l br i).cl q = c ∧ q < c ∧ c < i + 1) := by
      rintro (h | ⟨c, h1, h2, h3⟩)
      · exact .inl h
      · exact .inr ⟨c, h1, h2, by omega⟩
    rw [pst, pstep]
    split
    · split
      · exact up ih
      split
      · cases e : popTo br (- nth br i) (pst l br i).stk with
        | none => exact up ih
        | some ar =>
          obtain ⟨pre, e', _⟩ := popTo_sub (s := ar.1) (r := ar.2) e
          have hlt := pst_lt l br i ar.1 (by rw [e']; simp)
          simp only
          by_cases hq : q = ar.1
          · subst hq
            by_cases hl : ar.1 < (pst l br i).cl.length
            · rw [nth_set_self hl]; exact .inr ⟨i, rfl, hlt, by omega⟩
            · rw [List.set_eq_of_length_le (by omega)]; exact up ih
          · rw [nth_set_ne (fun e => hq e.symm)]; exact up ih
      · exact up ih
    · exact up ih
def prsK (cl : List Int) (j : Nat) : List (Nat × Nat) := (List.range j).filterMap fun i => if 0 < nth cl i then some (i, (nth cl i).toNat) else none
theorem prsK_yes {cl : List Int} {j : Nat} (h : 0 < nth cl j) : prsK cl (j + 1) = prsK cl j ++ [(j, (nth cl j).toNat)] := by
  unfold prsK; rw [List.range_succ, List.filterMap_append]; simp [h]
theorem prsK_no {cl : List Int} {j : Nat} (h : ¬ 0 < nth cl j) : prsK cl (j + 1) = prsK cl j := by
  unfold prsK; rw [List.range_succ, List.filterMap_append]; simp [h]
theorem prsK_le (cl : List Int) : ∀ j, (prsK cl j).length ≤ j
  | 0 => by simp [prsK]
  | j + 1 => by
    have := prsK_le cl j
    by_cases h : 0 < nth cl j
    · rw [prsK_yes h]; simp; omega
    · rw [prsK_no h]; omega
end Go.Proofs.YtjahmnenfknjgaaGreatDoor
