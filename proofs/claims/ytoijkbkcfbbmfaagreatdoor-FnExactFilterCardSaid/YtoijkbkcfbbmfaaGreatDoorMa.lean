/- What is proved here: trees of nodes in memory, and that the checks of the shape of a declaration answer as plain functions on trees do, first part. Conditions: each theorem names its own. -/
import Derived.WalkKit
import Derived.WalkLawsBesides
import Derived.Deep.QuietTactic
import Derived.BigQuiet
import Derived.Lib.Hide
import Derived.RangeFuncBox
import Derived.Shelf.Abstract
import Derived.Test.YtoijkbkcfbbmfaaGreatDoorProg
set_option linter.all false
set_option linter.unusedVariables false
set_option linter.unusedSimpArgs false
/- What is proved here: trees of nodes as they lie in memory, and that they lie so in every world that holds the same blocks. No program is in sight. -/
namespace Go.Proofs.YtoijkbkcfbbmfaaGreatDoor
open Go.RowKit

/-- A node: its kind, its text, the nodes below it. -/
inductive N where
  | mk (kind text : ByteArray) (kids : List N)
def N.kind : N → ByteArray | .mk k _ _ => k
def N.text : N → ByteArray | .mk _ t _ => t
def N.kids : N → List N | .mk _ _ ks => ks

mutual
def N.size : N → Nat
  | .mk _ _ ks => N.sizes ks + 1
def N.sizes : List N → Nat
  | [] => 0
  | n :: r => n.size + N.sizes r
end
theorem N.size_eq (n : N) : n.size = N.sizes n.kids + 1 := by cases n; simp [N.size, N.kids]
theorem N.sizes_cons (n : N) (r : List N) : N.sizes (n :: r) = n.size + N.sizes r := by simp [N.sizes]
theorem N.sizes_at {ks : List N} {i : Nat} {n : N} (h : ks[i]? = some n) : n.size ≤ N.sizes ks := by
  induction ks generalizing i with
  | nil => simp at h
  | cons x r ih =>
    rw [N.sizes_cons]
    cases i with
    | zero => simp at h; subst h; omega
    | succ i => have := ih (i := i) (by simpa using h); omega
theorem N.size_kid {m n : N} {i : Nat} (h : m.kids[i]? = some n) : n.size < m.size := by
  rw [N.size_eq m]
  have := N.sizes_at h
  omega

theorem N.len_le (ks : List N) : ks.length ≤ N.sizes ks := by
  induction ks with
  | nil => simp
  | cons x r ih => rw [N.sizes_cons, List.length_cons]; have := N.size_eq x; omega
theorem N.len_lt (n : N) : n.kids.length < n.size := by have := N.len_le n.kids; have := N.size_eq n; omega

/-- A slice of nodes that reads as a list of trees, in the blocks of which ok holds. -/
inductive KidsAt (ok : Nat → Prop) (w : World) : Value → List N → Prop where
  | nil (a : Option Addr) (cap : Nat) : KidsAt ok w (.slice a 0 cap) []
  | cons (b o cap : Nat) (ks : List N) (V : Nat → Value) (hb : ok b) (hpos : 0 < ks.length) (hcap : ks.length ≤ cap)
      (hc : ∀ i n, ks[i]? = some n → w.cell? ⟨b, o + i * 3, none⟩ = some (.string n.kind) ∧ w.cell? ⟨b, o + i * 3 + 1, none⟩ = some (.string n.text) ∧ w.cell? ⟨b, o + i * 3 + 2, none⟩ = some (V i))
      (hk : ∀ i n, ks[i]? = some n → KidsAt ok w (V i) n.kids) : KidsAt ok w (.slice (some ⟨b, o, none⟩) ks.length cap) ks

/-- The blocks of which ok holds lie in w' as in w. -/
def Same (ok : Nat → Prop) (w w' : World) : Prop := ∀ b, ok b → w'.heap[b]? = w.heap[b]?
theorem Same.refl (ok : Nat → Prop) (w : World) : Same ok w w := fun _ _ => rfl
theorem Same.trans {ok : Nat → Prop} {a b c : World} (h : Same ok a b) (k : Same ok b c) : Same ok a c := fun i hi => (k i hi).trans (h i hi)
theorem Same.cell {ok : Nat → Prop} {w w' : World} (h : Same ok w w') {b o : Nat} {s : Option Nat} (hb : ok b) : w'.cell? ⟨b, o, s⟩ = w.cell? ⟨b, o, s⟩ := World.cell?_of_block (w := w) (h b hb)
theorem Same.of_below {B : Nat} {w w' : World} (h : Below B w w') : Same (· < B) w w' := fun b hb => h.block b hb

theorem KidsAt.same {ok : Nat → Prop} {w w' : World} {v : Value} {ks : List N} (h : KidsAt ok w v ks) (hs : Same ok w w') : KidsAt ok w' v ks := by
  induction h with
  | nil a cap => exact .nil a cap
  | cons b o cap ks V hb hpos hcap hc hk ih =>
    refine .cons b o cap ks V hb hpos hcap (fun i n hi => ?_) ih
    rw [hs.cell hb, hs.cell hb, hs.cell hb]
    exact hc i n hi
theorem KidsAt.mono {ok ok' : Nat → Prop} {w : World} {v : Value} {ks : List N} (h : KidsAt ok w v ks) (hs : ∀ b, ok b → ok' b) : KidsAt ok' w v ks := by
  induction h with
  | nil a cap => exact .nil a cap
  | cons b o cap ks V hb hpos hcap hc hk ih => exact .cons b o cap ks V (hs b hb) hpos hcap hc ih
theorem KidsAt.under {B : Nat} {w w' : World} {v : Value} {ks : List N} (h : KidsAt (· < B) w v ks) (hb : Below B w w') : KidsAt (· < B) w' v ks := h.same (.of_below hb)
/-- As it lies in a world that has grown. -/
theorem KidsAt.later {w w' : World} {v : Value} {ks : List N} (h : KidsAt (· < w.heap.size) w v ks) (hb : Below w.heap.size w w') : KidsAt (· < w'.heap.size) w' v ks :=
  (h.same (.of_below hb)).mono (fun b (hlt : b < w.heap.size) => Nat.lt_of_lt_of_le hlt hb.size)
theorem KidsAt.len {ok : Nat → Prop} {w : World} {v : Value} {ks : List N} (h : KidsAt ok w v ks) : ∃ a cap, v = .slice a ks.length cap ∧ ks.length ≤ cap := by
  cases h with
  | nil a cap => exact ⟨a, cap, rfl, Nat.zero_le _⟩
  | cons b o cap ks V hb hpos hcap hc hk => exact ⟨_, cap, rfl, hcap⟩

/-- What a slice that reads as a list of trees is. -/
theorem KidsAt.shape {ok : Nat → Prop} {w : World} {v : Value} {ks : List N} (h : KidsAt ok w v ks) : ∃ a cap, v = .slice a ks.length cap ∧ ks.length ≤ cap ∧
    ∀ i n, ks[i]? = some n → ∃ b o V, a = some ⟨b, o, none⟩ ∧ ok b ∧ w.cell? ⟨b, o + i * 3, none⟩ = some (.string n.kind) ∧ w.cell? ⟨b, o + i * 3 + 1, none⟩ = some (.string n.text) ∧
      w.cell? ⟨b, o + i * 3 + 2, none⟩ = some V ∧ KidsAt ok w V n.kids := by
  cases h with
  | nil a cap => exact ⟨a, cap, rfl, Nat.zero_le _, fun i n hi => by simp at hi⟩
  | cons b o cap ks V hb hpos hcap hc hk =>
    exact ⟨_, cap, rfl, hcap, fun i n hi => ⟨b, o, V i, rfl, hb, (hc i n hi).1, (hc i n hi).2.1, (hc i n hi).2.2, hk i n hi⟩⟩
/-- The first of the list, where it lies. -/
theorem KidsAt.kid0 {ok : Nat → Prop} {w : World} {v : Value} {ks r : List N} {x : N} (h : KidsAt ok w v ks) (hx : ks = x :: r) : ∃ b o cap a2 cap2, v = .slice (some ⟨b, o, none⟩) ks.length cap ∧ ks.length ≤ cap ∧ ok b ∧
    w.cell? ⟨b, o, none⟩ = some (.string x.kind) ∧ w.cell? ⟨b, o + 1, none⟩ = some (.string x.text) ∧ w.cell? ⟨b, o + 2, none⟩ = some (.slice a2 x.kids.length cap2) ∧ KidsAt ok w (.slice a2 x.kids.length cap2) x.kids := by
  obtain ⟨a, cap, rfl, hcap, hel⟩ := h.shape
  obtain ⟨b, o, V, rfl, hb, c0, c1, c2, hV⟩ := hel 0 x (by rw [hx]; rfl)
  obtain ⟨a2, cap2, rfl, _, _⟩ := hV.shape
  exact ⟨b, o, cap, a2, cap2, rfl, hcap, hb, by simpa using c0, by simpa using c1, by simpa using c2, hV⟩
/-- The second of the list, where it lies. -/
theorem KidsAt.kid1 {ok : Nat → Prop} {w : World} {b o cap len : Nat} {ks r : List N} {x y : N} (h : KidsAt ok w (.slice (some ⟨b, o, none⟩) len cap) ks) (hx : ks = x :: y :: r) : ∃ a2 cap2,
    w.cell? ⟨b, o + 3, none⟩ = some (.string y.kind) ∧ w.cell? ⟨b, o + 3 + 1, none⟩ = some (.string y.text) ∧ w.cell? ⟨b, o + 3 + 2, none⟩ = some (.slice a2 y.kids.length cap2) ∧ KidsAt ok w (.slice a2 y.kids.length cap2) y.kids := by
  obtain ⟨a, cap', hv, hcap, hel⟩ := h.shape
  obtain ⟨b', o', V, he, hb, c0, c1, c2, hV⟩ := hel 1 y (by rw [hx]; rfl)
  obtain ⟨a2, cap2, rfl, _, _⟩ := hV.shape
  simp only [Value.slice.injEq] at hv
  obtain ⟨rfl, rfl⟩ : b' = b ∧ o' = o := by
    have := hv.1.trans he
    simp at this
    exact ⟨this.1.symm, this.2.symm⟩
  exact ⟨a2, cap2, by simpa using c0, by simpa using c1, by simpa using c2, hV⟩
/-- The third of the list, where it lies. -/
theorem KidsAt.kid2 {ok : Nat → Prop} {w : World} {b o cap len : Nat} {ks r : List N} {x y z : N} (h : KidsAt ok w (.slice (some ⟨b, o, none⟩) len cap) ks) (hx : ks = x :: y :: z :: r) : ∃ a2 cap2,
    w.cell? ⟨b, o + 6, none⟩ = some (.string z.kind) ∧ w.cell? ⟨b, o + 6 + 1, none⟩ = some (.string z.text) ∧ w.cell? ⟨b, o + 6 + 2, none⟩ = some (.slice a2 z.kids.length cap2) ∧ KidsAt ok w (.slice a2 z.kids.length cap2) z.kids := by
  obtain ⟨a, cap', hv, hcap, hel⟩ := h.shape
  obtain ⟨b', o', V, he, hb, c0, c1, c2, hV⟩ := hel 2 z (by rw [hx]; rfl)
  obtain ⟨a2, cap2, rfl, _, _⟩ := hV.shape
  simp only [Value.slice.injEq] at hv
  obtain ⟨rfl, rfl⟩ : b' = b ∧ o' = o := by
    have := hv.1.trans he
    simp at this
    exact ⟨this.1.symm, this.2.symm⟩
  exact ⟨a2, cap2, by simpa using c0, by simpa using c1, by simpa using c2, hV⟩
/-- What is behind the first. -/
theorem KidsAt.tail {ok : Nat → Prop} {w : World} {b o cap len : Nat} {ks r : List N} {x : N} (h : KidsAt ok w (.slice (some ⟨b, o, none⟩) len cap) ks) (hx : ks = x :: r) (a' : Option Addr) (cap' : Nat)
    (ha : r ≠ [] → a' = some ⟨b, o + 3, none⟩) (hc' : r.length ≤ cap') : KidsAt ok w (.slice a' r.length cap') r := by
  by_cases hr : r = []
  · subst hr; exact .nil a' cap'
  · obtain rfl := ha hr
    obtain ⟨a, cap2, hv, hcap, hel⟩ := h.shape
    have hpos : 0 < r.length := by cases r; exact absurd rfl hr; simp
    have hg : ∀ i n, r[i]? = some n → ∃ V, w.cell? ⟨b, o + 3 + i * 3, none⟩ = some (.string n.kind) ∧ w.cell? ⟨b, o + 3 + i * 3 + 1, none⟩ = some (.string n.text) ∧ w.cell? ⟨b, o + 3 + i * 3 + 2, none⟩ = some V ∧ KidsAt ok w V n.kids ∧ ok b := by
      intro i n hi
      obtain ⟨b', o', V, he, hb, c0, c1, c2, hV⟩ := hel (i + 1) n (by rw [hx]; simpa using hi)
      simp only [Value.slice.injEq] at hv
      obtain ⟨rfl, rfl⟩ : b' = b ∧ o' = o := by
        have := hv.1.trans he
        simp at this
        exact ⟨this.1.symm, this.2.symm⟩
      rw [show o' + (i + 1) * 3 = o' + 3 + i * 3 by omega] at c0 c1 c2
      exact ⟨V, c0, c1, c2, hV, hb⟩
    have hok : ok b := (hg 0 _ (List.getElem?_eq_getElem hpos)).choose_spec.2.2.2.2
    refine .cons b (o + 3) cap' r (fun i => if hi : i < r.length then (hg i _ (List.getElem?_eq_getElem hi)).choose else .nilIface) hok hpos hc' (fun i n hi => ?_) (fun i n hi => ?_)
    · obtain ⟨hlt, rfl⟩ := List.getElem?_eq_some_iff.1 hi
      rw [dif_pos hlt]
      have h := (hg i _ (List.getElem?_eq_getElem hlt)).choose_spec
      exact ⟨h.1, h.2.1, h.2.2.1⟩
    · obtain ⟨hlt, rfl⟩ := List.getElem?_eq_some_iff.1 hi
      rw [dif_pos hlt]
      exact (hg i _ (List.getElem?_eq_getElem hlt)).choose_spec.2.2.2.1
theorem KidsAt.tail' {ok : Nat → Prop} {w : World} {b o cap len : Nat} {ks r : List N} {x : N} (h : KidsAt ok w (.slice (some ⟨b, o, none⟩) len cap) ks) (hx : ks = x :: r) (a' : Option Addr) (len' cap' : Nat)
    (hlen : len' = r.length) (ha : r ≠ [] → a' = some ⟨b, o + 3, none⟩) (hc' : r.length ≤ cap') : KidsAt ok w (.slice a' len' cap') r := by
  subst hlen; exact h.tail hx a' cap' ha hc'
theorem getElem?_drop_cons {α : Type} {l : List α} {j : Nat} {x : α} (h : l[j]? = some x) : l.drop j = x :: l.drop (j + 1) := by
  obtain ⟨hj, rfl⟩ := List.getElem?_eq_some_iff.1 h
  exact List.drop_eq_getElem_cons hj

/-- A node as a value. -/
def N.val (n : N) (v : Value) : Value := .agg #[.string n.kind, .string n.text, v]
end Go.Proofs.YtoijkbkcfbbmfaaGreatDoor

/- What is proved here: the functions of spec that ask whether a tree is shaped answer as plain functions on trees do. No condition but that the tree lies in memory. -/
namespace Go.Proofs.YtoijkbkcfbbmfaaGreatDoor
open Go.RowKit

def isK (n : N) (c : List UInt8) : Bool := n.kind.toList == c
def missing (n : N) : Bool := isK n [110, 111, 110, 101] && n.text.toList.isEmpty && n.kids.length == 0
def isName (n : N) : Bool := isK n [110, 97, 109, 101] && n.kids.length == 0
def bare (n : N) : Bool := n.text.toList.isEmpty

theorem ret_bool {a b : Bool} (h : a = b) : Ending.returned (.bool a) = .returned (.bool b) := by rw [h]
theorem cast_beq (a b : Nat) : ((a : Int) == (b : Int)) = (a == b) := by
  rw [Bool.eq_iff_iff]; simp; omega
theorem cast_beq_zero (a : Nat) : ((a : Int) == 0) = (a == 0) := by
  rw [Bool.eq_iff_iff]; simp
theorem cast_beq_one (a : Nat) : ((a : Int) == 1) = (a == 1) := by
  rw [Bool.eq_iff_iff]; simp; omega

theorem missing_any (n : N) (a : Option Addr) (cap : Nat) (w : World) :
    Calls Tryz.prog 14 #[n.val (.slice a n.kids.length cap)] w fun e w' => e = .returned (.bool (missing n)) ∧ Below w.heap.size w w' := by
  obtain ⟨k, t, ks⟩ := n
  simp only [missing, isK, N.val, N.kind, N.text, N.kids]
  generalize ks.length = len
  go_enter Tryz.func14, Tryz.ntmps14
  go_wp2_with fail
  all_goals
    go_ret
    exact ⟨ret_bool (by simp_all [cast_beq_zero]), (Below.refl _ _).alloc (Nat.le_refl _) _⟩

theorem isName_any (n : N) (a : Option Addr) (cap : Nat) (w : World) :
    Calls Tryz.prog 49 #[n.val (.slice a n.kids.length cap)] w fun e w' => e = .returned (.bool (isName n)) ∧ Below w.heap.size w w' := by
  obtain ⟨k, t, ks⟩ := n
  simp only [isName, isK, N.val, N.kind, N.text, N.kids]
  generalize ks.length = len
  go_enter Tryz.func49, Tryz.ntmps49
  go_wp2_with fail
  all_goals
    go_ret
    exact ⟨ret_bool (by simp_all [cast_beq_zero]), (Below.refl _ _).alloc (Nat.le_refl _) _⟩

theorem bare_any (n : N) (a : Option Addr) (cap : Nat) (w : World) :
    Calls Tryz.prog 51 #[n.val (.slice a n.kids.length cap)] w fun e w' => e = .returned (.bool (bare n)) ∧ Below w.heap.size w w' := by
  obtain ⟨k, t, ks⟩ := n
  simp only [bare, N.val, N.kind, N.text, N.kids]
  generalize ks.length = len
  go_enter Tryz.func51, Tryz.ntmps51
  go_wp2_with fail
  all_goals
    go_ret
    exact ⟨ret_bool (by simp_all), (Below.refl _ _).alloc (Nat.le_refl _) _⟩

theorem true_any (n : N) (v : Value) (w : World) :
    Calls Tryz.prog 52 #[n.val v] w fun e w' => e = .returned (.bool true) ∧ Below w.heap.size w w' := by
  unfold N.val
  go_enter Tryz.func52, Tryz.ntmps52
  go_wp2_with fail
  go_ret
  exact ⟨rfl, (Below.refl _ _).alloc (Nat.le_refl _) _⟩

def fits1 (n : N) : Bool := decide (n.kind.size ≤ 2147483647 ∧ n.text.size ≤ 2147483647 ∧ n.kids.length ≤ 2147483647)
theorem fits1_no {n : N} (h : 2147483647 < n.kind.size ∨ 2147483647 < n.text.size ∨ 2147483647 < n.kids.length) : false = fits1 n := by
  symm; unfold fits1; rw [decide_eq_false_iff_not]; omega
theorem fits1_yes {n : N} (h1 : n.kind.size ≤ 2147483647) (h2 : n.text.size ≤ 2147483647) (h3 : n.kids.length ≤ 2147483647) : true = fits1 n := by
  symm; unfold fits1; rw [decide_eq_true_iff]; exact ⟨h1, h2, h3⟩
theorem fits1_any (n : N) (a : Option Addr) (cap : Nat) (w : World) :
    Calls Tryz.prog 4 #[n.val (.slice a n.kids.length cap)] w fun e w' => e = .returned (.bool (fits1 n)) ∧ Below w.heap.size w w' := by
  unfold N.val
  go_enter Tryz.func4, Tryz.ntmps4
  go_wp2_with fail
  all_goals
    go_ret
    refine ⟨ret_bool ?_, (Below.refl _ _).alloc (Nat.le_refl _) _⟩
    first
      | exact fits1_no (by omega)
      | exact fits1_yes (by omega) (by omega) (by omega)

/-- 'count': whether the tree has no more nodes than are left, and what is left. -/
def cnt : Nat → N → Int → Int → Bool × Int
  | 0, _, L, _ => (false, L)
  | f + 1, n, L, d => if L - 1 < 0 ∨ d > 60 ∨ (n.kids.length : Int) > L - 1 then (false, L - 1) else cnts (cnt f) n.kids (L - 1) (d + 1)
where
  cnts (c : N → Int → Int → Bool × Int) : List N → Int → Int → Bool × Int
    | [], L, _ => (true, L)
    | k :: r, L, d => if (c k L d).1 then cnts c r (c k L d).2 d else (false, (c k L d).2)

theorem cnt_le (f : Nat) : ∀ (n : N) (L d : Int), 0 ≤ L → -1 ≤ (cnt f n L d).2 ∧ (cnt f n L d).2 ≤ L ∧ ((cnt f n L d).1 = true → 0 ≤ (cnt f n L d).2) := by
  induction f with
  | zero => intro n L d h; simp [cnt]; omega
  | succ f ih =>
    intro n L d h
    have hcs : ∀ (ks : List N) (L d : Int), 0 ≤ L → -1 ≤ (cnt.cnts (cnt f) ks L d).2 ∧ (cnt.cnts (cnt f) ks L d).2 ≤ L ∧ ((cnt.cnts (cnt f) ks L d).1 = true → 0 ≤ (cnt.cnts (cnt f) ks L d).2) := by
      intro ks
      induction ks with
      | nil => intro L d h; simp [cnt.cnts]; omega
      | cons k r ihr =>
        intro L d h
        have hk := ih k L d h
        simp only [cnt.cnts]
        split
        · rename_i ht
          have h2 := ihr (cnt f k L d).2 d (hk.2.2 ht)
          exact ⟨h2.1, Int.le_trans h2.2.1 hk.2.1, h2.2.2⟩
        · exact ⟨hk.1, hk.2.1, fun h => by simp at h⟩
    simp only [cnt]
    split
    · simp; omega
    · rename_i hn
      have h2 := hcs n.kids (L - 1) (d + 1) (by omega)
      exact ⟨h2.1, Int.le_trans h2.2.1 (by omega), h2.2.2⟩

theorem grownBy_cell {w w' : World} {bl : Nat} (h : w.grownBy w' (some bl)) : Same (fun b => b < w.heap.size ∧ b ≠ bl) w w' :=
  fun b hb => h.block b hb.1 (fun e => hb.2 (by injection e))
theorem grownBy_step {w w1 w2 : World} {bl : Nat} (h : w.grownBy w1 (some bl)) (k : w1.grownBy w2 (some bl)) : w.grownBy w2 (some bl) :=
  ⟨k.os.trans h.os, k.tape.trans h.tape, k.output.trans h.output, Nat.le_trans h.size k.size, fun i hi hne => (k.block i (Nat.lt_of_lt_of_le hi h.size) hne).trans (h.block i hi hne)⟩

theorem count_start (w : World) (bl : Nat) (L : Int) (o : Obj) (nq : Nat) (hb : w.heap[bl]? = some (.cells #[.int .i64 L] 3 (0, 0))) :
    w.grownBy (((w.setCell ⟨bl, 0, none⟩ (.int .i64 (L - 1))).alloc o).drewN nq) (some bl) ∧
    (((w.setCell ⟨bl, 0, none⟩ (.int .i64 (L - 1))).alloc o).drewN nq).heap[bl]? = some (.cells #[.int .i64 (L - 1)] 3 (0, 0)) := by
  have hlt := lt_of_block hb
  refine ⟨⟨rfl, rfl, rfl, by simp [World.setCell], fun k hk hne => ?_⟩, ?_⟩
  · refine (Below.heap_alloc _ o k (by simpa [World.setCell] using hk)).trans (Below.heap_setCell _ _ _ _ (fun e => hne (by rw [e])))
  · refine (Below.heap_alloc _ o bl (by simpa [World.setCell] using hlt)).trans (one_setCell hb)

set_option maxRecDepth 100000 in
theorem count_any (f : Nat) : ∀ (n : N) (v : Value) (L d : Int) (bl : Nat) (w : World), n.size ≤ f → KidsAt (fun b => b < w.heap.size ∧ b ≠ bl) w v n.kids → 0 ≤ L → L ≤ 400 → 0 ≤ d → d ≤ 61 →
    w.heap[bl]? = some (.cells #[.int .i64 L] 3 (0, 0)) →
    Calls Tryz.prog 23 #[n.val v, .pointer (some ⟨bl, 0, none⟩), .int .i64 d] w fun e w' =>
      e = .returned (.bool (cnt f n L d).1) ∧ w.grownBy w' (some bl) ∧ w'.heap[bl]? = some (.cells #[.int .i64 (cnt f n L d).2] 3 (0, 0)) := by
  induction f with
  | zero => intro n v L d bl w hf; have := N.size_eq n; omega
  | succ f ih =>
    intro n v L d bl w hf hk hL0 hL1 hd0 hd1 hb
    obtain ⟨a, cap, rfl, hcap, _⟩ := hk.shape
    have hc := cell_of_one hb
    have hfr := free_of_one hb
    have hlt := lt_of_block hb
    have IH := Lib.hid ih
    have HK := Lib.hid hk
    have HB := Lib.hid hb
    clear ih hk hb
    unfold N.val
    by_cases hno : L - 1 < 0 ∨ d > 60 ∨ (n.kids.length : Int) > L - 1
    · have e1 : cnt (f + 1) n L d = (false, L - 1) := by simp only [cnt]; rw [if_pos hno]
      rw [e1]
      clear e1
      by_cases h1 : L - 1 < 0
      · have g1 : decide (L - 1 < 0) = true := by simpa using h1
        clear hno
        go_enter Tryz.func23, Tryz.ntmps23
        go_wp2_with fail
        go_quiet (fail)
        go_wp2_with fail
        go_ret
        exact ⟨rfl, count_start w bl L _ _ HB.out⟩
      · have g1 : decide (L - 1 < 0) = false := by simpa using h1
        by_cases h2 : 60 < d
        · have g2 : decide (60 < d) = true := by simpa using h2
          clear hno
          go_enter Tryz.func23, Tryz.ntmps23
          go_wp2_with fail
          go_quiet (fail)
          go_wp2_with fail
          go_ret
          exact ⟨rfl, count_start w bl L _ _ HB.out⟩
        · have g2 : decide (60 < d) = false := by simpa using h2
          have h3 : L - 1 < (n.kids.length : Int) := by omega
          have g3 : decide (L - 1 < (n.kids.length : Int)) = true := by simpa using h3
          clear hno
          go_enter Tryz.func23, Tryz.ntmps23
          go_wp2_with fail
          go_quiet (fail)
          go_wp2_with fail
          go_ret
          exact ⟨rfl, count_start w bl L _ _ HB.out⟩
    · have e1 : cnt (f + 1) n L d = cnt.cnts (cnt f) n.kids (L - 1) (d + 1) := by simp only [cnt]; rw [if_neg hno]
      rw [e1]
      clear e1
      have h1 : ¬ L - 1 < 0 := by omega
      have h2 : ¬ 60 < d := by omega
      have h3 : ¬ L - 1 < (n.kids.length : Int) := by omega
      have g1 : decide (L - 1 < 0) = false := by simpa using h1
      have g2 : decide (60 < d) = false := by simpa using h2
      have g3 : decide (L - 1 < (n.kids.length : Int)) = false := by simpa using h3
      clear hno
      go_enter Tryz.func23, Tryz.ntmps23
      go_wp2_with fail
      go_quiet (fail)
      go_wp2_with fail
      go_loopw [34] (fun i wr => ∃ (j : Nat) (Lj : Int), j ≤ n.kids.length ∧ i = .int .i64 j ∧ 0 ≤ Lj ∧ Lj ≤ 400 ∧ wr.heap[bl]? = some (.cells #[.int .i64 Lj] 3 (0, 0)) ∧
        cnt.cnts (cnt f) (n.kids.drop j) Lj (d + 1) = cnt.cnts (cnt f) n.kids (L - 1) (d + 1) ∧ w.grownBy wr (some bl)) (fun i _ => n.kids.length - (intOf i).toNat)
      case atStart =>
        have hs := count_start w bl L (Obj.cells #[Value.string n.kind, Value.string n.text, Value.slice a n.kids.length cap] 24)
        exact ⟨0, L - 1, Nat.zero_le _, rfl, by omega, by omega, (hs _ HB.out).2, rfl, (hs _ HB.out).1⟩
      case round =>
        obtain ⟨j, Lj, hj, rfl, hl0, hl1, hbj, hcj, hgj⟩ := hrel
        have HBJ := Lib.hid hbj
        have HCJ := Lib.hid hcj
        have HGJ := Lib.hid hgj
        clear hbj hcj hgj
        by_cases hjl : j < n.kids.length
        · obtain ⟨m, hm⟩ : ∃ m, n.kids[j]? = some m := ⟨_, List.getElem?_eq_getElem hjl⟩
          obtain ⟨a', cap', hv', _, hel⟩ := (HK.out.same (grownBy_cell HGJ.out)).shape
          obtain ⟨rfl, rfl⟩ : a' = a ∧ cap' = cap := by cases hv'; exact ⟨rfl, rfl⟩
          obtain ⟨b, o, V, rfl, hb, c0, c1, c2, hV⟩ := hel j m hm
          obtain ⟨a2, cap2, rfl, _, _⟩ := hV.shape
          have hsz : m.size ≤ f := by have := N.size_kid (m := n) hm; omega
          have hbl : bl < wr.heap.size := lt_of_block HBJ.out
          have HM := Lib.hid hm
          have HV := Lib.hid hV
          clear hm hV hel hv'
          go_wp2_with fail
          have hbl2 : (wr.alloc (Obj.cells #[Value.string m.kind, Value.string m.text, Value.slice a2 m.kids.length cap2] 24)).heap[bl]? = some (.cells #[.int .i64 Lj] 3 (0, 0)) := (Below.heap_alloc _ _ _ hbl).trans HBJ.out
          have hg2 : w.grownBy (wr.alloc (Obj.cells #[Value.string m.kind, Value.string m.text, Value.slice a2 m.kids.length cap2] 24)) (some bl) := grownBy_step HGJ.out (World.grownBy_alloc _ _ _)
          have hV2 : KidsAt (fun b => b < (wr.alloc (Obj.cells #[Value.string m.kind, Value.string m.text, Value.slice a2 m.kids.length cap2] 24)).heap.size ∧ b ≠ bl) (wr.alloc (Obj.cells #[Value.string m.kind, Value.string m.text, Value.slice a2 m.kids.length cap2] 24)) (.slice a2 m.kids.length cap2) m.kids :=
            (HV.out.same (fun b hb => Below.heap_alloc _ _ _ (Nat.lt_of_lt_of_le hb.1 HGJ.out.size))).mono (fun b hb => ⟨Nat.lt_of_lt_of_le hb.1 hg2.size, hb.2⟩)
          have hle := cnt_le f m Lj (d + 1) hl0
          have HB2 := Lib.hid hbl2
          have HG2 := Lib.hid hg2
          have HV2 := Lib.hid hV2
          have HLE := Lib.hid hle
          clear hbl2 hg2 hV2 hle
          refine (IH.out m _ Lj (d + 1) bl _ hsz HV2.out hl0 hl1 (by omega) (by omega) HB2.out).mono ?_
          rintro e w3 ⟨rfl, hg3, hb3⟩
          have HG3 := Lib.hid hg3
          have HB3 := Lib.hid hb3
          clear hg3 hb3
          cases hr : (cnt f m Lj (d + 1)).1 with
          | true =>
            have HR := Lib.hid hr
            clear hr
            go_wp2_with fail
            go_roundw
            case rel =>
              have h := HLE.out
              have hd := HCJ.out
              rw [getElem?_drop_cons HM.out] at hd
              simp only [cnt.cnts, HR.out, if_true] at hd
              exact ⟨j + 1, (cnt f m Lj (d + 1)).2, by omega, by go_num, h.2.2 HR.out, by omega, HB3.out, hd, grownBy_step HG2.out HG3.out⟩
            case measure => simp [intOf]; omega
          | false =>
            have HR := Lib.hid hr
            clear hr
            go_wp2_with fail
            go_ret
            have hd := HCJ.out
            rw [getElem?_drop_cons HM.out] at hd
            simp only [cnt.cnts, HR.out, Bool.false_eq_true, if_false] at hd
            rw [← hd]
            exact ⟨rfl, grownBy_step HG2.out HG3.out, HB3.out⟩
        · go_wp2_with fail
          go_ret
          have : n.kids.drop j = [] := by simp; omega
          have h := HCJ.out
          rw [this] at h
          rw [← h]
          exact ⟨rfl, HGJ.out, HBJ.out⟩
end Go.Proofs.YtoijkbkcfbbmfaaGreatDoor

/- What is proved here: slices.IndexFunc, slices.ContainsFunc and spec.every over a list of trees, at whatever function value answers as a plain predicate; spec.short. No condition but that the trees lie in memory. -/
namespace Go.Proofs.YtoijkbkcfbbmfaaGreatDoor
open Go.RowKit Go.Shelf

/-- A function value that answers as p does, of trees of which S holds, in every later world. -/
def IsPred (w0 : World) (fv : Value) (S : N → Prop) (p : N → Bool) : Prop :=
  ∃ g caps, fv = .func (.func g) #[] caps ∧ (∀ args w, (callFunc g args).run Tryz.prog w = .ok (.enter g args) w) ∧
    ∀ (n : N) (v : Value) (w : World), S n → Below w0.heap.size w0 w → KidsAt (· < w.heap.size) w v n.kids →
      Calls Tryz.prog g (#[n.val v] ++ caps) w fun e w' => e = .returned (.bool (p n)) ∧ Below w.heap.size w w'
theorem IsPred.later {w0 w1 : World} {fv : Value} {S : N → Prop} {p : N → Bool} (h : IsPred w0 fv S p) (hb : Below w0.heap.size w0 w1) : IsPred w1 fv S p := by
  obtain ⟨g, caps, hf, hc, hp⟩ := h
  exact ⟨g, caps, hf, hc, fun n v w hs hw hk => hp n v w hs (hb.trans (hw.mono hb.size)) hk⟩
theorem kids_load {w wr : World} {v : Value} {ks : List N} (h : KidsAt (· < w.heap.size) w v ks) (hb : Below w.heap.size w wr) : KidsAt (· < w.heap.size) wr v ks := h.under hb

set_option maxRecDepth 100000 in
theorem indexFunc_any (ks : List N) (v fv : Value) (S : N → Prop) (p : N → Bool) (w : World) (hk : KidsAt (· < w.heap.size) w v ks) (hl : ks.length ≤ 2147483647)
    (hS : ∀ n ∈ ks, S n) (hp : IsPred w fv S p) :
    Calls Tryz.prog 54 #[v, fv] w fun e w' => (∃ i : Int, e = .returned (.int .i64 i) ∧ decide (0 ≤ i) = ks.any p) ∧ Below w.heap.size w w' := by
  obtain ⟨a, cap, rfl, hcap, _⟩ := hk.shape
  obtain ⟨g, caps, rfl, hcf, hpf⟩ := hp
  have HP := Lib.hid hpf
  have HK := Lib.hid hk
  clear hpf hk
  go_enter Tryz.func54, Tryz.ntmps54
  go_wp2_with fail
  go_loopw [8] (fun i wr => ∃ j : Nat, j ≤ ks.length ∧ i = .int .i64 j ∧ (ks.drop j).any p = ks.any p ∧ Below w.heap.size w wr) (fun i _ => ks.length - (intOf i).toNat)
  case atStart => exact ⟨0, Nat.zero_le _, rfl, rfl, Below.refl _ _⟩
  case round =>
    obtain ⟨j, hj, rfl, hany, hbj⟩ := hrel
    have HA := Lib.hid hany
    have HB := Lib.hid hbj
    clear hany hbj
    by_cases hjl : j < ks.length
    · obtain ⟨m, hm⟩ : ∃ m, ks[j]? = some m := ⟨_, List.getElem?_eq_getElem hjl⟩
      obtain ⟨a', cap', hv', _, hel⟩ := (HK.out.under HB.out).shape
      obtain ⟨rfl, rfl⟩ : a' = a ∧ cap' = cap := by cases hv'; exact ⟨rfl, rfl⟩
      obtain ⟨b, o, V, rfl, hb, c0, c1, c2, hV⟩ := hel j m hm
      obtain ⟨a2, cap2, rfl, _, _⟩ := hV.shape
      have hSm : S m := hS m (List.mem_of_getElem? hm)
      have HM := Lib.hid hm
      have HV := Lib.hid hV
      clear hm hV hel hv'
      go_wp2_with fail
      refine (HP.out m _ _ hSm HB.out ((HV.out.mono (fun b (h : b < w.heap.size) => Nat.lt_of_lt_of_le h HB.out.size)))).mono ?_
      rintro e w2 ⟨rfl, hb2⟩
      have HB2 := Lib.hid hb2
      clear hb2
      have hd := getElem?_drop_cons HM.out
      have HD := Lib.hid hd
      clear hd
      cases hpm : p m with
      | true =>
        have HPM := Lib.hid hpm
        clear hpm
        go_wp2_with fail
        go_ret
        have h := HA.out
        rw [HD.out, List.any_cons, HPM.out, Bool.true_or] at h
        exact ⟨⟨_, rfl, by rw [← h]; simp⟩, HB.out.trans (HB2.out.mono HB.out.size)⟩
      | false =>
        have HPM := Lib.hid hpm
        clear hpm
        go_wp2_with fail
        go_roundw
        case rel =>
          have h := HA.out
          rw [HD.out, List.any_cons, HPM.out, Bool.false_or] at h
          exact ⟨j + 1, by omega, by go_num, h, HB.out.trans (HB2.out.mono HB.out.size)⟩
        case measure => simp [intOf]; omega
    · go_wp2_with fail
      go_ret
      have h := HA.out
      rw [show ks.drop j = [] by simp; omega] at h
      exact ⟨⟨_, rfl, by rw [← h]; simp⟩, HB.out⟩

theorem containsFunc_any (ks : List N) (v fv : Value) (S : N → Prop) (p : N → Bool) (w : World) (hk : KidsAt (· < w.heap.size) w v ks) (hl : ks.length ≤ 2147483647)
    (hS : ∀ n ∈ ks, S n) (hp : IsPred w fv S p) :
    Calls Tryz.prog 30 #[v, fv] w fun e w' => e = .returned (.bool (ks.any p)) ∧ Below w.heap.size w w' := by
  have hc := Lib.hid (indexFunc_any ks v fv S p w hk hl hS hp)
  obtain ⟨g, caps, rfl, _⟩ := hp
  obtain ⟨a, cap, rfl, _, _⟩ := hk.shape
  clear hk hS
  go_enter Tryz.func30, Tryz.ntmps30
  go_wp2_with fail
  refine hc.out.mono ?_
  rintro e w2 ⟨⟨i, rfl, hi⟩, hb⟩
  have HI := Lib.hid hi
  clear hi
  go_wp2_with fail
  go_ret
  exact ⟨ret_bool (by rw [← HI.out]), hb⟩

/-- The closure of 'every': not f. -/
theorem notF (w0 : World) (B : Nat) (fv : Value) (S : N → Prop) (p : N → Bool) (hB : w0.cell? ⟨B, 0, none⟩ = some fv) (hlt : B < w0.heap.size) (hp : IsPred w0 fv S p) :
    IsPred w0 (.func (.func 31) #[] #[.pointer (some ⟨B, 0, none⟩)]) S (fun n => !p n) := by
  obtain ⟨g, caps, rfl, hcf, hpf⟩ := hp
  refine ⟨31, _, rfl, enters_of Tryz.func31 (by kernel_rfl) rfl, fun n v w hs hw hk => ?_⟩
  obtain ⟨a, cap, rfl, _, _⟩ := hk.shape
  have hc : w.cell? ⟨B, 0, none⟩ = some (.func (.func g) #[] caps) := (hw.cell (p := ⟨B, 0, none⟩) hlt).trans hB
  have hlt2 : B < w.heap.size := Nat.lt_of_lt_of_le hlt hw.size
  have HP := Lib.hid hpf
  have HK := Lib.hid hk
  have HW := Lib.hid hw
  clear hpf hk hw hB
  unfold N.val
  show Calls Tryz.prog 31 #[_, _] w _
  go_enter Tryz.func31, Tryz.ntmps31
  go_wp2_with fail
  have hb1 := (Below.refl w.heap.size w).alloc (Nat.le_refl _) (Obj.cells #[Value.string n.kind, Value.string n.text, Value.slice a n.kids.length cap] 24)
  refine (HP.out n _ _ hs (HW.out.trans (hb1.mono HW.out.size)) (HK.out.later hb1)).mono ?_
  rintro e w2 ⟨rfl, hb2⟩
  go_wp2_with fail
  go_ret
  exact ⟨rfl, hb1.trans (hb2.mono hb1.size)⟩

theorem every_any (ks : List N) (v fv : Value) (S : N → Prop) (p : N → Bool) (w : World) (hk : KidsAt (· < w.heap.size) w v ks) (hl : ks.length ≤ 2147483647)
    (hS : ∀ n ∈ ks, S n) (hp : IsPred w fv S p) :
    Calls Tryz.prog 15 #[v, fv] w fun e w' => e = .returned (.bool (ks.all p)) ∧ Below w.heap.size w w' := by
  have hb1 := (Below.refl w.heap.size w).alloc (Nat.le_refl _) (Obj.cells #[fv] 26)
  have hn := notF (w.alloc (.cells #[fv] 26)) w.heap.size fv S p (Boxed.new w 26 fv).cell (Boxed.new w 26 fv).lt (hp.later hb1)
  have hc := Lib.hid (containsFunc_any ks v _ S _ _ (hk.later hb1) hl hS hn)
  obtain ⟨g, caps, rfl, _⟩ := hp
  obtain ⟨a, cap, rfl, _, _⟩ := hk.shape
  have HB1 := Lib.hid hb1
  clear hk hS hn hb1
  go_enter Tryz.func15, Tryz.ntmps15
  go_wp2_with fail
  refine hc.out.mono ?_
  rintro e w2 ⟨rfl, hb⟩
  go_wp2_with fail
  go_ret
  exact ⟨ret_bool (by rw [List.any_eq_not_all_not]; simp), HB1.out.trans (hb.mono HB1.out.size)⟩

def short : Nat → N → Bool
  | 0, _ => false
  | f + 1, n => decide (n.text.size ≤ 1048576) && n.kids.all (short f)
set_option maxRecDepth 100000 in
theorem short_any (f : Nat) : ∀ (n : N) (v : Value) (w : World), f ≤ 2147483647 → n.size ≤ f → KidsAt (· < w.heap.size) w v n.kids →
    Calls Tryz.prog 12 #[n.val v] w fun e w' => e = .returned (.bool (short f n)) ∧ Below w.heap.size w w' := by
  induction f with
  | zero => intro n v w hf0 hf; have := N.size_eq n; omega
  | succ f ih =>
    intro n v w hf0 hf hk
    have hl : n.kids.length ≤ 2147483647 := by have := N.len_lt n; omega
    obtain ⟨a, cap, rfl, hcap, _⟩ := hk.shape
    have IH := Lib.hid ih
    have HK := Lib.hid hk
    clear ih hk
    unfold N.val
    by_cases hs : (n.text.size : Int) > 1048576
    · go_enter Tryz.func12, Tryz.ntmps12
      go_wp2_with fail
      go_ret
      refine ⟨ret_bool ?_, (Below.refl _ _).alloc (Nat.le_refl _) _⟩
      have : ¬ n.text.size ≤ 1048576 := by omega
      simp [short, this]
    · have hsh : short (f + 1) n = n.kids.all (short f) := by
        have : n.text.size ≤ 1048576 := by omega
        simp [short, this]
      rw [hsh]
      clear hsh
      go_enter Tryz.func12, Tryz.ntmps12
      go_wp2_with fail
      go_loopw [12] (fun i wr => ∃ j : Nat, j ≤ n.kids.length ∧ i = .int .i64 j ∧ (n.kids.drop j).all (short f) = n.kids.all (short f) ∧ Below w.heap.size w wr) (fun i _ => n.kids.length - (intOf i).toNat)
      case atStart => exact ⟨0, Nat.zero_le _, rfl, rfl, (Below.refl _ _).alloc (Nat.le_refl _) _⟩
      case round =>
        obtain ⟨j, hj, rfl, hany, hbj⟩ := hrel
        have HA := Lib.hid hany
        have HB := Lib.hid hbj
        clear hany hbj
        by_cases hjl : j < n.kids.length
        · obtain ⟨m, hm⟩ : ∃ m, n.kids[j]? = some m := ⟨_, List.getElem?_eq_getElem hjl⟩
          obtain ⟨a', cap', hv', _, hel⟩ := (HK.out.under HB.out).shape
          obtain ⟨rfl, rfl⟩ : a' = a ∧ cap' = cap := by cases hv'; exact ⟨rfl, rfl⟩
          obtain ⟨b, o, V, rfl, hb, c0, c1, c2, hV⟩ := hel j m hm
          obtain ⟨a2, cap2, rfl, _, _⟩ := hV.shape
          have hsz : m.size ≤ f := by have := N.size_kid (m := n) hm; omega
          have HM := Lib.hid hm
          have HV := Lib.hid hV
          clear hm hV hel hv'
          go_wp2_with fail
          have hb1 := HB.out.alloc HB.out.size (Obj.cells #[Value.string m.kind, Value.string m.text, Value.slice a2 m.kids.length cap2] 24)
          have hV2 := (HV.out.under (B := w.heap.size) ((Below.refl _ wr).alloc HB.out.size (Obj.cells #[Value.string m.kind, Value.string m.text, Value.slice a2 m.kids.length cap2] 24))).mono
            (fun b (h : b < w.heap.size) => Nat.lt_of_lt_of_le h hb1.size)
          refine (IH.out m _ _ (by omega) hsz hV2).mono ?_
          rintro e w2 ⟨rfl, hb2⟩
          have HB2 := Lib.hid hb2
          have HB1 := Lib.hid hb1
          clear hb2 hb1 hV2
          have hd := getElem?_drop_cons HM.out
          have HD := Lib.hid hd
          clear hd
          cases hpm : short f m with
          | true =>
            have HPM := Lib.hid hpm
            clear hpm
            go_wp2_with fail
            go_roundw
            case rel =>
              have h := HA.out
              rw [HD.out, List.all_cons, HPM.out, Bool.true_and] at h
              exact ⟨j + 1, by omega, by go_num, h, HB1.out.trans (HB2.out.mono HB1.out.size)⟩
            case measure => simp [intOf]; omega
          | false =>
            have HPM := Lib.hid hpm
            clear hpm
            go_wp2_with fail
            go_ret
            have h := HA.out
            rw [HD.out, List.all_cons, HPM.out, Bool.false_and] at h
            exact ⟨ret_bool h, HB1.out.trans (HB2.out.mono HB1.out.size)⟩
        · go_wp2_with fail
          go_ret
          have h := HA.out
          rw [show n.kids.drop j = [] by simp; omega] at h
          exact ⟨ret_bool h, HB.out⟩
end Go.Proofs.YtoijkbkcfbbmfaaGreatDoor

/- What is proved here: spec.or, spec.shapedFields and what it hands to spec.every, answer as plain functions on trees do. No condition but that the trees lie in memory. -/
namespace Go.Proofs.YtoijkbkcfbbmfaaGreatDoor
open Go.RowKit Go.Shelf

/-- A node in a box of the call's own, in a later world. -/
theorem boxed_node {w w2 : World} {k t : ByteArray} {v : Value} (h : Below (w.alloc (.cells #[.string k, .string t, v] 24)).heap.size (w.alloc (.cells #[.string k, .string t, v] 24)) w2) :
    w2.cell? ⟨w.heap.size, 0, none⟩ = some (.string k) ∧ w2.cell? ⟨w.heap.size, 1, none⟩ = some (.string t) ∧ w2.cell? ⟨w.heap.size, 2, none⟩ = some v ∧ Below w.heap.size w w2 ∧ w.heap.size < w2.heap.size :=
  ⟨(h.cell (p := ⟨w.heap.size, 0, none⟩) (by simp)).trans (by simp), (h.cell (p := ⟨w.heap.size, 1, none⟩) (by simp)).trans (by simp), (h.cell (p := ⟨w.heap.size, 2, none⟩) (by simp)).trans (by simp),
    ((Below.refl _ _).alloc (Nat.le_refl _) _).trans (h.mono (by simp)), by have := h.size; simp at this; omega⟩

def orB (p : N → Bool) (n : N) : Bool := missing n || p n
theorem or_any (n : N) (v fv : Value) (S : N → Prop) (p : N → Bool) (w : World) (hk : KidsAt (· < w.heap.size) w v n.kids) (hS : missing n = false → S n) (hp : IsPred w fv S p) :
    Calls Tryz.prog 27 #[n.val v, fv] w fun e w' => e = .returned (.bool (orB p n)) ∧ Below w.heap.size w w' := by
  obtain ⟨a, cap, rfl, hcap, _⟩ := hk.shape
  obtain ⟨g, caps, rfl, hcf, hpf⟩ := hp
  have hb1 := (Below.refl w.heap.size w).alloc (Nat.le_refl _) (Obj.cells #[Value.string n.kind, Value.string n.text, Value.slice a n.kids.length cap] 24)
  have HP := Lib.hid hpf
  have HK := Lib.hid hk
  have HB1 := Lib.hid hb1
  clear hpf hk hb1
  unfold N.val
  go_enter Tryz.func27, Tryz.ntmps27
  go_wp2_with fail
  refine (missing_any n a cap _).mono ?_
  rintro e w2 ⟨rfl, hb2⟩
  have HB2 := Lib.hid (HB1.out.trans (hb2.mono HB1.out.size))
  have hcell : w2.cell? ⟨w.heap.size, 0, none⟩ = some (.string n.kind) := (hb2.cell (p := ⟨w.heap.size, 0, none⟩) (by simp)).trans (by simp)
  have hcell1 : w2.cell? ⟨w.heap.size, 1, none⟩ = some (.string n.text) := (hb2.cell (p := ⟨w.heap.size, 1, none⟩) (by simp)).trans (by simp)
  have hcell2 : w2.cell? ⟨w.heap.size, 2, none⟩ = some (.slice a n.kids.length cap) := (hb2.cell (p := ⟨w.heap.size, 2, none⟩) (by simp)).trans (by simp)
  clear hb2
  cases hm : missing n with
  | true =>
    go_wp2_with fail
    go_ret
    exact ⟨ret_bool (by simp [orB, hm]), HB2.out⟩
  | false =>
    have hs := hS hm
    go_wp2_with fail
    refine (HP.out n _ _ hs HB2.out (HK.out.later HB2.out)).mono ?_
    rintro e w3 ⟨rfl, hb3⟩
    go_wp2_with fail
    go_ret
    exact ⟨ret_bool (by simp [orB, hm]), HB2.out.trans (hb3.mono HB2.out.size)⟩

theorem isName_pred (w : World) : IsPred w (.func (.func 49) #[] #[]) (fun _ => True) isName :=
  ⟨49, #[], rfl, enters_of Tryz.func49 (by kernel_rfl) rfl, fun n v w _ _ hk => by
    obtain ⟨a, cap, rfl, _, _⟩ := hk.shape
    exact isName_any n a cap w⟩
theorem bare_pred (w : World) : IsPred w (.func (.func 51) #[] #[]) (fun _ => True) bare :=
  ⟨51, #[], rfl, enters_of Tryz.func51 (by kernel_rfl) rfl, fun n v w _ _ hk => by
    obtain ⟨a, cap, rfl, _, _⟩ := hk.shape
    exact bare_any n a cap w⟩
theorem true_pred (w : World) : IsPred w (.func (.func 52) #[] #[]) (fun _ => True) (fun _ => true) :=
  ⟨52, #[], rfl, enters_of Tryz.func52 (by kernel_rfl) rfl, fun n v w _ _ _ => true_any n v w⟩

/-- A field of which one holds. -/
def fieldB (sh one : N → Bool) (n : N) : Bool :=
  match n.kids with
  | [] => false
  | x :: r => isK n [102, 105, 101, 108, 100] && sh x && r.all isName && one n
def shF (sh one : N → Bool) (n : N) : Bool := isK n [102, 105, 101, 108, 100, 115] && n.text.toList.isEmpty && n.kids.all (fieldB sh one)

set_option maxRecDepth 100000 in
theorem field1 (w0 : World) (B f : Nat) (hf2 : f ≤ 2147483647) (one sh : N → Bool) (fv : Value) (hB : w0.cell? ⟨B, 0, none⟩ = some fv) (hlt : B < w0.heap.size) (hp : IsPred w0 fv (·.size ≤ f) one)
    (hsh : ∀ (n : N) (v : Value) (w : World), n.size ≤ f → KidsAt (· < w.heap.size) w v n.kids → Calls Tryz.prog 29 #[n.val v] w fun e w' => e = .returned (.bool (sh n)) ∧ Below w.heap.size w w') :
    IsPred w0 (.func (.func 67) #[] #[.pointer (some ⟨B, 0, none⟩)]) (·.size ≤ f) (fieldB sh one) := by
  obtain ⟨g, caps, rfl, hcf, hpf⟩ := hp
  refine ⟨67, _, rfl, enters_of Tryz.func67 (by kernel_rfl) rfl, fun n v w hs hw hk => ?_⟩
  have hc : w.cell? ⟨B, 0, none⟩ = some (.func (.func g) #[] caps) := (hw.cell (p := ⟨B, 0, none⟩) hlt).trans hB
  have hlt2 : B < w.heap.size := Nat.lt_of_lt_of_le hlt hw.size
  have hl1 := N.len_lt n
  have HP := Lib.hid hpf
  have HSH := Lib.hid hsh
  have HW := Lib.hid hw
  clear hpf hw hB hsh
  unfold N.val
  show Calls Tryz.prog 67 #[_, _] w _
  cases hks : n.kids with
  | nil =>
    have hfb : fieldB sh one n = false := by simp [fieldB, hks]
    rw [hfb]
    obtain ⟨a, cap, rfl, hcap, hel⟩ := hk.shape
    have hl0 : ¬ (0 : Int) < (n.kids.length : Int) := by rw [hks]; simp
    clear hel hk hks
    cases hkd : (n.kind.toList == [102, 105, 101, 108, 100]) <;>
    · go_enter Tryz.func67, Tryz.ntmps67
      go_wp2_with fail
      go_ret
      exact ⟨rfl, (Below.refl _ _).alloc (Nat.le_refl _) _⟩
  | cons x r =>
    have hl0 : (0 : Int) < (n.kids.length : Int) := by rw [hks]; simp
    have hl0n : 0 < n.kids.length := by omega
    have hrl : r.length = n.kids.length - 1 := by rw [hks]; simp
    have HRL := Lib.hid hrl
    clear hrl
    obtain ⟨b, o, cap, a2, cap2, rfl, hcap, hb, c0, c1, c2, hx⟩ := hk.kid0 hks
    have HX := Lib.hid hx
    have HKS := Lib.hid hks
    have HK := Lib.hid hk
    clear hx hks hk
    cases hkd : (n.kind.toList == [102, 105, 101, 108, 100]) with
    | false =>
      have hfb : fieldB sh one n = false := by simp [fieldB, HKS.out, isK, hkd]
      rw [hfb]
      go_enter Tryz.func67, Tryz.ntmps67
      go_wp2_with fail
      go_ret
      exact ⟨rfl, (Below.refl _ _).alloc (Nat.le_refl _) _⟩
    | true =>
      have hfb : fieldB sh one n = (sh x && r.all isName && one n) := by simp [fieldB, HKS.out, isK, hkd]
      rw [hfb]
      clear hfb
      go_enter Tryz.func67, Tryz.ntmps67
      go_wp2_with fail
      have hb1 := (Below.refl w.heap.size w).alloc (Nat.le_refl _) (Obj.cells #[Value.string n.kind, Value.string n.text, Value.slice (some ⟨b, o, none⟩) n.kids.length cap] 24)
      have hszx : x.size ≤ f := by have := N.size_kid (m := n) (n := x) (i := 0) (by rw [HKS.out]; rfl); omega
      refine (HSH.out x _ _ hszx (HX.out.later hb1)).mono ?_
      rintro e w2 ⟨rfl, hb2⟩
      obtain ⟨d0, d1, d2, hb3, hs2⟩ := boxed_node hb2
      have HB3 := Lib.hid hb3
      clear hb1 hb2 hb3
      cases hsx : sh x with
      | false =>
        go_wp2_with fail
        go_ret
        exact ⟨ret_bool (by simp [hsx]), HB3.out⟩
      | true =>
        have HSX := Lib.hid hsx
        clear hsx
        have hcr : cap = 1 → r = [] := fun h => by
          have h1 := HKS.out
          have : r.length = 0 := by have := HRL.out; omega
          exact List.eq_nil_of_length_eq_zero this
        have HCR := Lib.hid hcr
        clear hcr
        have hK2 := HK.out.later HB3.out
        have HK2 := Lib.hid hK2
        clear hK2
        by_cases hcap1 : cap = 1
        · subst hcap1
          have HR0 := Lib.hid (HCR.out rfl)
          clear HCR
          go_wp2_with fail
          refine (every_any r _ _ (fun _ => True) isName _ (HK2.out.tail' HKS.out _ _ _ (by rw [HR0.out]; simp) (fun h => absurd HR0.out h) (by rw [HR0.out]; simp)) (by have := HRL.out; omega) (fun _ _ => trivial) (isName_pred _)).mono ?_
          rintro e w4 ⟨rfl, hb4⟩
          have e0 : w4.cell? ⟨w.heap.size, 0, none⟩ = some (.string n.kind) := (hb4.cell (p := ⟨w.heap.size, 0, none⟩) hs2).trans d0
          have e1 : w4.cell? ⟨w.heap.size, 1, none⟩ = some (.string n.text) := (hb4.cell (p := ⟨w.heap.size, 1, none⟩) hs2).trans d1
          have e2 : w4.cell? ⟨w.heap.size, 2, none⟩ = some (.slice (some ⟨b, o, none⟩) n.kids.length 1) := (hb4.cell (p := ⟨w.heap.size, 2, none⟩) hs2).trans d2
          have hcc : w4.cell? ⟨B, 0, none⟩ = some (.func (.func g) #[] caps) := (hb4.cell (p := ⟨B, 0, none⟩) (Nat.lt_of_lt_of_le hlt2 HB3.out.size)).trans ((HB3.out.cell (p := ⟨B, 0, none⟩) hlt2).trans hc)
          have HB4 := Lib.hid (HB3.out.trans (hb4.mono HB3.out.size))
          clear hb4 hc d0 d1 d2
          cases han : r.all isName with
          | false =>
            go_wp2_with fail
            go_ret
            exact ⟨ret_bool (by simp [han]), HB4.out⟩
          | true =>
            have HAN := Lib.hid han
            clear han
            go_wp2_with fail
            refine (HP.out n _ _ hs (HW.out.trans (HB4.out.mono HW.out.size)) (HK.out.later HB4.out)).mono ?_
            rintro e w5 ⟨rfl, hb5⟩
            go_wp2_with fail
            go_ret
            exact ⟨ret_bool (by simp [HSX.out, HAN.out]), HB4.out.trans (hb5.mono HB4.out.size)⟩
        · go_wp2_with fail
          refine (every_any r _ _ (fun _ => True) isName _ (HK2.out.tail' HKS.out _ _ _ (by rw [HRL.out]) (fun _ => rfl) (by have := HRL.out; omega)) (by have := HRL.out; omega) (fun _ _ => trivial) (isName_pred _)).mono ?_
          rintro e w4 ⟨rfl, hb4⟩
          have e0 : w4.cell? ⟨w.heap.size, 0, none⟩ = some (.string n.kind) := (hb4.cell (p := ⟨w.heap.size, 0, none⟩) hs2).trans d0
          have e1 : w4.cell? ⟨w.heap.size, 1, none⟩ = some (.string n.text) := (hb4.cell (p := ⟨w.heap.size, 1, none⟩) hs2).trans d1
          have e2 : w4.cell? ⟨w.heap.size, 2, none⟩ = some (.slice (some ⟨b, o, none⟩) n.kids.length cap) := (hb4.cell (p := ⟨w.heap.size, 2, none⟩) hs2).trans d2
          have hcc : w4.cell? ⟨B, 0, none⟩ = some (.func (.func g) #[] caps) := (hb4.cell (p := ⟨B, 0, none⟩) (Nat.lt_of_lt_of_le hlt2 HB3.out.size)).trans ((HB3.out.cell (p := ⟨B, 0, none⟩) hlt2).trans hc)
          have HB4 := Lib.hid (HB3.out.trans (hb4.mono HB3.out.size))
          clear hb4 hc d0 d1 d2
          cases han : r.all isName with
          | false =>
            go_wp2_with fail
            go_ret
            exact ⟨ret_bool (by simp [han]), HB4.out⟩
          | true =>
            have HAN := Lib.hid han
            clear han
            go_wp2_with fail
            refine (HP.out n _ _ hs (HW.out.trans (HB4.out.mono HW.out.size)) (HK.out.later HB4.out)).mono ?_
            rintro e w5 ⟨rfl, hb5⟩
            go_wp2_with fail
            go_ret
            exact ⟨ret_bool (by simp [HSX.out, HAN.out]), HB4.out.trans (hb5.mono HB4.out.size)⟩

theorem shF_any (f : Nat) (hf2 : f ≤ 2147483647) (one sh : N → Bool) (n : N) (v fv : Value) (w : World) (hn : n.size ≤ f) (hk : KidsAt (· < w.heap.size) w v n.kids) (hp : IsPred w fv (·.size ≤ f) one)
    (hsh : ∀ (n : N) (v : Value) (w : World), n.size ≤ f → KidsAt (· < w.heap.size) w v n.kids → Calls Tryz.prog 29 #[n.val v] w fun e w' => e = .returned (.bool (sh n)) ∧ Below w.heap.size w w') :
    Calls Tryz.prog 50 #[n.val v, fv] w fun e w' => e = .returned (.bool (shF sh one n)) ∧ Below w.heap.size w w' := by
  obtain ⟨a, cap, rfl, hcap, hel⟩ := hk.shape
  have hl1 := N.len_lt n
  have hb1 := (Below.refl w.heap.size w).alloc (Nat.le_refl _) (Obj.cells #[Value.string n.kind, Value.string n.text, Value.slice a n.kids.length cap] 24)
  have hb2 := hb1.alloc (by simp) (Obj.cells #[fv] 26)
  have hbx := Boxed.new (w.alloc (Obj.cells #[Value.string n.kind, Value.string n.text, Value.slice a n.kids.length cap] 24)) 26 fv
  have hpred := field1 _ _ f hf2 one sh fv hbx.cell hbx.lt (hp.later hb2) hsh
  have hE := every_any n.kids _ _ _ _ _ (hk.later hb2) (by omega) (fun m hm => by
    obtain ⟨i, hi⟩ := List.getElem?_of_mem hm
    have := N.size_kid (m := n) hi
    show m.size ≤ f
    omega) hpred
  have HE := Lib.hid hE
  have HB2 := Lib.hid hb2
  obtain ⟨g, caps, rfl, _⟩ := hp
  clear hE hb1 hb2 hbx hpred hsh hel hk
  simp only [World.size_alloc] at HE
  unfold N.val
  cases hkd : (n.kind.toList == [102, 105, 101, 108, 100, 115]) with
  | false =>
    go_enter Tryz.func50, Tryz.ntmps50
    go_wp2_with fail
    go_ret
    exact ⟨ret_bool (by simp [shF, isK, hkd]), HB2.out⟩
  | true =>
    cases ht : n.text.toList.isEmpty with
    | false =>
      go_enter Tryz.func50, Tryz.ntmps50
      go_wp2_with fail
      go_ret
      exact ⟨ret_bool (by simp [shF, ht]), HB2.out⟩
    | true =>
      go_enter Tryz.func50, Tryz.ntmps50
      go_wp2_with fail
      refine HE.out.mono ?_
      rintro e w2 ⟨rfl, hb⟩
      go_wp2_with fail
      go_ret
      exact ⟨ret_bool (by simp [shF, isK, hkd, ht]), HB2.out.trans (hb.mono (by omega))⟩
end Go.Proofs.YtoijkbkcfbbmfaaGreatDoor

/- What is proved here: spec.shapedExpr and spec.shapedMethods answer as plain functions on trees do. No condition but that the trees lie in memory. -/
namespace Go.Proofs.YtoijkbkcfbbmfaaGreatDoor
open Go.RowKit Go.Shelf

def methodB (n : N) : Bool :=
  n.text.toList.isEmpty && (n.kids.length == 1 || (match n.kids with | [x, _] => isK x [115, 105, 103, 110, 97, 116, 117, 114, 101] | _ => false))

theorem isEmpty_bare (n : N) : bare n = n.text.toList.isEmpty := rfl

theorem method_pred (w0 : World) : IsPred w0 (.func (.func 68) #[] #[]) (fun _ => True) methodB := by
  refine ⟨68, #[], rfl, enters_of Tryz.func68 (by kernel_rfl) rfl, fun n v w _ _ hk => ?_⟩
  show Calls Tryz.prog 68 #[_] w _
  cases ht : n.text.toList.isEmpty with
  | false =>
    obtain ⟨a, cap, rfl, hcap, hel⟩ := hk.shape
    clear hel
    have HT := Lib.hid ht
    clear ht
    unfold N.val
    go_enter Tryz.func68, Tryz.ntmps68
    go_wp2_with fail
    refine (bare_any n a cap _).mono ?_
    rintro e w2 ⟨rfl, hb⟩
    obtain ⟨d0, d1, d2, hb3, hs2⟩ := boxed_node hb
    have hbb : bare n = false := HT.out
    go_wp2_with fail
    go_ret
    exact ⟨ret_bool (by simp [methodB, HT.out]), hb3⟩
  | true =>
    have HT := Lib.hid ht
    clear ht
    by_cases h1 : n.kids.length = 1
    · obtain ⟨a, cap, rfl, hcap, hel⟩ := hk.shape
      clear hel
      have h1b : ((n.kids.length : Int) == 1) = true := by rw [h1]; rfl
      have H1 := Lib.hid h1
      clear h1
      unfold N.val
      go_enter Tryz.func68, Tryz.ntmps68
      go_wp2_with fail
      refine (bare_any n a cap _).mono ?_
      rintro e w2 ⟨rfl, hb⟩
      obtain ⟨d0, d1, d2, hb3, hs2⟩ := boxed_node hb
      have hbb : bare n = true := HT.out
      have HB3 := Lib.hid hb3
      clear hb hb3
      go_wp2_with fail
      go_ret
      exact ⟨ret_bool (by simp [methodB, HT.out, H1.out]), HB3.out⟩
    · have h1b : ((n.kids.length : Int) == 1) = false := by rw [cast_beq_one]; simpa using h1
      by_cases h2 : n.kids.length = 2
      · obtain ⟨x, y, hxy⟩ : ∃ x y, n.kids = [x, y] := by
          match hks : n.kids, h2 with
          | [x, y], _ => exact ⟨x, y, rfl⟩
        have h2b : ((n.kids.length : Int) == 2) = true := by rw [h2]; rfl
        have hl0n : 0 < n.kids.length := by omega
        have hl0 : (0 : Int) < (n.kids.length : Int) := by omega
        obtain ⟨b, o, cap, a2, cap2, rfl, hcap, hb, c0, c1, c2, hx⟩ := hk.kid0 hxy
        have HXY := Lib.hid hxy
        clear hxy h2 h1 hx
        unfold N.val
        go_enter Tryz.func68, Tryz.ntmps68
        go_wp2_with fail
        refine (bare_any n _ cap _).mono ?_
        rintro e w2 ⟨rfl, hb2⟩
        obtain ⟨d0, d1, d2, hb3, hs2⟩ := boxed_node hb2
        have hbb : bare n = true := HT.out
        have cc0 : w2.cell? ⟨b, o, none⟩ = some (.string x.kind) := (hb3.cell (p := ⟨b, o, none⟩) hb).trans c0
        have HB3 := Lib.hid hb3
        clear hb2 hb3 c0 c1 c2
        go_wp2_with fail
        all_goals
          go_ret
          refine ⟨ret_bool ?_, HB3.out⟩
          simp_all [methodB, HT.out, HXY.out, isK]
      · have h2b : ((n.kids.length : Int) == 2) = false := by
          rw [show ((2 : Int)) = ((2 : Nat) : Int) from rfl, cast_beq]; simpa using h2
        obtain ⟨a, cap, rfl, hcap, hel⟩ := hk.shape
        have hm : methodB n = false := by
          unfold methodB
          match hks : n.kids, h1, h2 with
          | [], _, _ => simp
          | [x], h1, _ => simp at h1
          | [x, y], _, h2 => simp at h2
          | x :: y :: z :: r, _, _ => simp
        rw [hm]
        clear hel h1 h2
        unfold N.val
        go_enter Tryz.func68, Tryz.ntmps68
        go_wp2_with fail
        refine (bare_any n a cap _).mono ?_
        rintro e w2 ⟨rfl, hb⟩
        obtain ⟨d0, d1, d2, hb3, hs2⟩ := boxed_node hb
        have hbb : bare n = true := HT.out
        have HB3 := Lib.hid hb3
        clear hb hb3
        go_wp2_with fail
        go_ret
        exact ⟨rfl, HB3.out⟩

def kid1B (p : N → Bool) : List N → Bool
  | [x] => p x
  | _ => false
def kid2B (p : N → N → Bool) : List N → Bool
  | [x, y] => p x y
  | _ => false

/-- 'shapedExpr', by fuel. -/
def shE : Nat → N → Bool
  | 0, _ => false
  | f + 1, n =>
    let plain := n.text.toList.isEmpty
    if isK n [110, 97, 109, 101] || isK n [108, 105, 116, 101, 114, 97, 108] then n.kids.length == 0
    else if isK n [115, 101, 108, 101, 99, 116] then kid1B (fun x => shE f x) n.kids
    else if isK n [115, 116, 97, 114] then plain && kid1B (fun x => shE f x) n.kids
    else if isK n [97, 114, 114, 97, 121] then plain && kid2B (fun x y => orB (shE f) x && shE f y) n.kids
    else if isK n [109, 97, 112] then plain && (n.kids.length == 2 && n.kids.all (shE f))
    else if isK n [99, 104, 97, 110] then (plain || n.text.toList == [115, 101, 110, 100] || n.text.toList == [114, 101, 99, 101, 105, 118, 101]) && kid1B (fun x => shE f x) n.kids
    else if isK n [115, 105, 103, 110, 97, 116, 117, 114, 101] then plain && kid2B (fun x y => shF (shE f) bare x && orB (shF (shE f) bare) y) n.kids
    else if isK n [115, 116, 114, 117, 99, 116] then plain && kid1B (fun x => shF (shE f) (fun _ => true) x) n.kids
    else if isK n [105, 110, 116, 101, 114, 102, 97, 99, 101] then plain && kid1B (fun x => shF (shE f) methodB x) n.kids
    else false

/-- What is known of the calls below. -/
def EHyp (f : Nat) : Prop := ∀ (n : N) (v : Value) (w : World), n.size ≤ f → KidsAt (· < w.heap.size) w v n.kids →
  Calls Tryz.prog 29 #[n.val v] w fun e w' => e = .returned (.bool (shE f n)) ∧ Below w.heap.size w w'
theorem EHyp.pred {f : Nat} (h : EHyp f) (w : World) : IsPred w (.func (.func 29) #[] #[]) (·.size ≤ f) (shE f) :=
  ⟨29, #[], rfl, enters_of Tryz.func29 (by kernel_rfl) rfl, fun n v w hs _ hk => h n v w hs hk⟩

theorem params_any (f : Nat) (hf2 : f ≤ 2147483647) (hE : EHyp f) (n : N) (v : Value) (w : World) (hn : n.size ≤ f) (hk : KidsAt (· < w.heap.size) w v n.kids) :
    Calls Tryz.prog 28 #[n.val v] w fun e w' => e = .returned (.bool (shF (shE f) bare n)) ∧ Below w.heap.size w w' := by
  obtain ⟨a, cap, rfl, hcap, hel⟩ := hk.shape
  have hb1 := (Below.refl w.heap.size w).alloc (Nat.le_refl _) (Obj.cells #[Value.string n.kind, Value.string n.text, Value.slice a n.kids.length cap] 24)
  obtain ⟨g, caps, hg, hc, hp⟩ := bare_pred (w.alloc (Obj.cells #[Value.string n.kind, Value.string n.text, Value.slice a n.kids.length cap] 24))
  have hF := shF_any f hf2 bare (shE f) n _ _ _ hn (hk.later hb1) ⟨g, caps, hg, hc, fun n v w _ hw hk => hp n v w trivial hw hk⟩ hE
  have HF := Lib.hid hF
  have HB1 := Lib.hid hb1
  clear hF hb1 hel hk hp hc hg
  unfold N.val
  go_enter Tryz.func28, Tryz.ntmps28
  go_wp2_with fail
  refine HF.out.mono ?_
  rintro e w2 ⟨rfl, hb⟩
  go_wp2_with fail
  go_ret
  exact ⟨rfl, HB1.out.trans (hb.mono (by simp))⟩
theorem params_pred {f : Nat} (hf2 : f ≤ 2147483647) (h : EHyp f) (w : World) : IsPred w (.func (.func 28) #[] #[]) (·.size ≤ f) (shF (shE f) bare) :=
  ⟨28, #[], rfl, enters_of Tryz.func28 (by kernel_rfl) rfl, fun n v w hs _ hk => params_any f hf2 h n v w hs hk⟩

theorem methods_any (f : Nat) (hf2 : f ≤ 2147483647) (hE : EHyp f) (n : N) (v : Value) (w : World) (hn : n.size ≤ f) (hk : KidsAt (· < w.heap.size) w v n.kids) :
    Calls Tryz.prog 53 #[n.val v] w fun e w' => e = .returned (.bool (shF (shE f) methodB n)) ∧ Below w.heap.size w w' := by
  obtain ⟨a, cap, rfl, hcap, hel⟩ := hk.shape
  have hb1 := (Below.refl w.heap.size w).alloc (Nat.le_refl _) (Obj.cells #[Value.string n.kind, Value.string n.text, Value.slice a n.kids.length cap] 24)
  obtain ⟨g, caps, hg, hc, hp⟩ := method_pred (w.alloc (Obj.cells #[Value.string n.kind, Value.string n.text, Value.slice a n.kids.length cap] 24))
  have hF := shF_any f hf2 methodB (shE f) n _ _ _ hn (hk.later hb1) ⟨g, caps, hg, hc, fun n v w _ hw hk => hp n v w trivial hw hk⟩ hE
  have HF := Lib.hid hF
  have HB1 := Lib.hid hb1
  clear hF hb1 hel hk hp hc hg
  unfold N.val
  go_enter Tryz.func53, Tryz.ntmps53
  go_wp2_with fail
  refine HF.out.mono ?_
  rintro e w2 ⟨rfl, hb⟩
  go_wp2_with fail
  go_ret
  exact ⟨rfl, HB1.out.trans (hb.mono (by simp))⟩


set_option maxRecDepth 100000 in
theorem e_name (f : Nat) (n : N) (v : Value) (w : World) (hk : KidsAt (· < w.heap.size) w v n.kids) (hkd : n.kind.toList = [110, 97, 109, 101]) :
    Calls Tryz.prog 29 #[n.val v] w fun e w' => e = .returned (.bool (shE (f + 1) n)) ∧ Below w.heap.size w w' := by
  obtain ⟨a, cap, rfl, hcap, hel⟩ := hk.shape
  have hs : shE (f + 1) n = (n.kids.length == 0) := by simp [shE, isK, hkd]
  rw [hs]
  clear hel hk hs
  unfold N.val
  go_enter Tryz.func29, Tryz.ntmps29
  go_wp2_with fail
  go_ret
  exact ⟨ret_bool (by simp [cast_beq_zero]), (Below.refl _ _).alloc (Nat.le_refl _) _⟩

set_option maxRecDepth 100000 in
theorem e_literal (f : Nat) (n : N) (v : Value) (w : World) (hk : KidsAt (· < w.heap.size) w v n.kids) (hkd : n.kind.toList = [108, 105, 116, 101, 114, 97, 108]) :
    Calls Tryz.prog 29 #[n.val v] w fun e w' => e = .returned (.bool (shE (f + 1) n)) ∧ Below w.heap.size w w' := by
  obtain ⟨a, cap, rfl, hcap, hel⟩ := hk.shape
  have hs : shE (f + 1) n = (n.kids.length == 0) := by simp [shE, isK, hkd]
  rw [hs]
  clear hel hk hs
  unfold N.val
  go_enter Tryz.func29, Tryz.ntmps29
  go_wp2_with fail
  go_ret
  exact ⟨ret_bool (by simp [cast_beq_zero]), (Below.refl _ _).alloc (Nat.le_refl _) _⟩

set_option maxRecDepth 100000 in
theorem e_select (f : Nat) (hE : EHyp f) (n : N) (v : Value) (w : World) (hn : n.size ≤ f + 1) (hk : KidsAt (· < w.heap.size) w v n.kids) (hkd : n.kind.toList = [115, 101, 108, 101, 99, 116]) :
    Calls Tryz.prog 29 #[n.val v] w fun e w' => e = .returned (.bool (shE (f + 1) n)) ∧ Below w.heap.size w w' := by
  have hs : shE (f + 1) n = (kid1B (fun x => shE f x) n.kids) := by simp [shE, isK, hkd]
  rw [hs]
  clear hs
  by_cases h1 : n.kids.length = 1
  · obtain ⟨x, hx⟩ : ∃ x, n.kids = [x] := by
      match hks : n.kids, h1 with
      | [x], _ => exact ⟨x, rfl⟩
    have h1b : ((n.kids.length : Int) == 1) = true := by rw [h1]; rfl
    have hl0n : 0 < n.kids.length := by omega
    have hl0 : (0 : Int) < (n.kids.length : Int) := by omega
    have hsz : x.size ≤ f := by have := N.size_kid (m := n) (n := x) (i := 0) (by rw [hx]; rfl); omega
    obtain ⟨b, o, cap, a2, cap2, rfl, hcap, hb, c0, c1, c2, hxk⟩ := hk.kid0 hx
    have hm : kid1B (fun x => shE f x) n.kids = shE f x := by rw [hx]; rfl
    rw [hm]
    have HXK := Lib.hid hxk
    have HE := Lib.hid hE
    clear hx h1 hxk hm hk hE
    unfold N.val
    have hb1 := (Below.refl w.heap.size w).alloc (Nat.le_refl _) (Obj.cells #[Value.string n.kind, Value.string n.text, Value.slice (some ⟨b, o, none⟩) n.kids.length cap] 24)
    have HB1 := Lib.hid hb1
    clear hb1
    go_enter Tryz.func29, Tryz.ntmps29
    go_wp2_with fail
    refine (HE.out x _ _ hsz (HXK.out.later HB1.out)).mono ?_
    rintro e w2 ⟨rfl, hb2⟩
    go_wp2_with fail
    go_ret
    exact ⟨ret_bool (by simp), HB1.out.trans (hb2.mono (by simp))⟩
  · have h1b : ((n.kids.length : Int) == 1) = false := by rw [cast_beq_one]; simpa using h1
    have hm : kid1B (fun x => shE f x) n.kids = false := by
      match hks : n.kids, h1 with
      | [], _ => rfl
      | [x], h1 => exact absurd rfl h1
      | x :: y :: r, _ => rfl
    rw [hm]
    obtain ⟨a, cap, rfl, hcap, hel⟩ := hk.shape
    clear hm h1 hel hk
    unfold N.val
    go_enter Tryz.func29, Tryz.ntmps29
    go_wp2_with fail
    go_ret
    exact ⟨ret_bool (by simp), (Below.refl _ _).alloc (Nat.le_refl _) _⟩

set_option maxRecDepth 100000 in
theorem e_star (f : Nat) (hE : EHyp f) (n : N) (v : Value) (w : World) (hn : n.size ≤ f + 1) (hk : KidsAt (· < w.heap.size) w v n.kids) (hkd : n.kind.toList = [115, 116, 97, 114]) :
    Calls Tryz.prog 29 #[n.val v] w fun e w' => e = .returned (.bool (shE (f + 1) n)) ∧ Below w.heap.size w w' := by
  have hs : shE (f + 1) n = (n.text.toList.isEmpty && kid1B (fun x => shE f x) n.kids) := by simp [shE, isK, hkd]
  rw [hs]
  clear hs
  cases ht : n.text.toList.isEmpty with
  | false =>
    rw [Bool.false_and]
    obtain ⟨a, cap, rfl, hcap, hel⟩ := hk.shape
    clear hel hk
    unfold N.val
    go_enter Tryz.func29, Tryz.ntmps29
    go_wp2_with fail
    go_ret
    exact ⟨ret_bool (by simp), (Below.refl _ _).alloc (Nat.le_refl _) _⟩
  | true =>
    by_cases h1 : n.kids.length = 1
    · obtain ⟨x, hx⟩ : ∃ x, n.kids = [x] := by
        match hks : n.kids, h1 with
        | [x], _ => exact ⟨x, rfl⟩
      have h1b : ((n.kids.length : Int) == 1) = true := by rw [h1]; rfl
      have hl0n : 0 < n.kids.length := by omega
      have hl0 : (0 : Int) < (n.kids.length : Int) := by omega
      have hsz : x.size ≤ f := by have := N.size_kid (m := n) (n := x) (i := 0) (by rw [hx]; rfl); omega
      obtain ⟨b, o, cap, a2, cap2, rfl, hcap, hb, c0, c1, c2, hxk⟩ := hk.kid0 hx
      have hm : kid1B (fun x => shE f x) n.kids = shE f x := by rw [hx]; rfl
      rw [hm]
      have HXK := Lib.hid hxk
      have HE := Lib.hid hE
      clear hx h1 hxk hm hk hE
      unfold N.val
      have hb1 := (Below.refl w.heap.size w).alloc (Nat.le_refl _) (Obj.cells #[Value.string n.kind, Value.string n.text, Value.slice (some ⟨b, o, none⟩) n.kids.length cap] 24)
      have HB1 := Lib.hid hb1
      clear hb1
      go_enter Tryz.func29, Tryz.ntmps29
      go_wp2_with fail
      refine (HE.out x _ _ hsz (HXK.out.later HB1.out)).mono ?_
      rintro e w2 ⟨rfl, hb2⟩
      go_wp2_with fail
      go_ret
      exact ⟨ret_bool (by simp), HB1.out.trans (hb2.mono (by simp))⟩
    · have h1b : ((n.kids.length : Int) == 1) = false := by rw [cast_beq_one]; simpa using h1
      have hm : kid1B (fun x => shE f x) n.kids = false := by
        match hks : n.kids, h1 with
        | [], _ => rfl
        | [x], h1 => exact absurd rfl h1
        | x :: y :: r, _ => rfl
      rw [hm]
      obtain ⟨a, cap, rfl, hcap, hel⟩ := hk.shape
      clear hm h1 hel hk
      unfold N.val
      go_enter Tryz.func29, Tryz.ntmps29
      go_wp2_with fail
      go_ret
      exact ⟨ret_bool (by simp), (Below.refl _ _).alloc (Nat.le_refl _) _⟩

set_option maxRecDepth 100000 in
theorem e_interface (f : Nat) (hf2 : f ≤ 2147483647) (hE : EHyp f) (n : N) (v : Value) (w : World) (hn : n.size ≤ f + 1) (hk : KidsAt (· < w.heap.size) w v n.kids) (hkd : n.kind.toList = [105, 110, 116, 101, 114, 102, 97, 99, 101]) :
    Calls Tryz.prog 29 #[n.val v] w fun e w' => e = .returned (.bool (shE (f + 1) n)) ∧ Below w.heap.size w w' := by
  have hs : shE (f + 1) n = (n.text.toList.isEmpty && kid1B (fun x => shF (shE f) methodB x) n.kids) := by simp [shE, isK, hkd]
  rw [hs]
  clear hs
  cases ht : n.text.toList.isEmpty with
  | false =>
    rw [Bool.false_and]
    obtain ⟨a, cap, rfl, hcap, hel⟩ := hk.shape
    clear hel hk
    unfold N.val
    go_enter Tryz.func29, Tryz.ntmps29
    go_wp2_with fail
    go_ret
    exact ⟨ret_bool (by simp), (Below.refl _ _).alloc (Nat.le_refl _) _⟩
  | true =>
    by_cases h1 : n.kids.length = 1
    · obtain ⟨x, hx⟩ : ∃ x, n.kids = [x] := by
        match hks : n.kids, h1 with
        | [x], _ => exact ⟨x, rfl⟩
      have h1b : ((n.kids.length : Int) == 1) = true := by rw [h1]; rfl
      have hl0n : 0 < n.kids.length := by omega
      have hl0 : (0 : Int) < (n.kids.length : Int) := by omega
      have hsz : x.size ≤ f := by have := N.size_kid (m := n) (n := x) (i := 0) (by rw [hx]; rfl); omega
      obtain ⟨b, o, cap, a2, cap2, rfl, hcap, hb, c0, c1, c2, hxk⟩ := hk.kid0 hx
      have hm : kid1B (fun x => shF (shE f) methodB x) n.kids = shF (shE f) methodB x := by rw [hx]; rfl
      rw [hm]
      have HXK := Lib.hid hxk
      have HE := Lib.hid hE
      clear hx h1 hxk hm hk hE
      unfold N.val
      have hb1 := (Below.refl w.heap.size w).alloc (Nat.le_refl _) (Obj.cells #[Value.string n.kind, Value.string n.text, Value.slice (some ⟨b, o, none⟩) n.kids.length cap] 24)
      have HB1 := Lib.hid hb1
      clear hb1
      go_enter Tryz.func29, Tryz.ntmps29
      go_wp2_with fail
      refine (methods_any f hf2 HE.out x _ _ hsz (HXK.out.later HB1.out)).mono ?_
      rintro e w2 ⟨rfl, hb2⟩
      go_wp2_with fail
      go_ret
      exact ⟨ret_bool (by simp), HB1.out.trans (hb2.mono (by simp))⟩
    · have h1b : ((n.kids.length : Int) == 1) = false := by rw [cast_beq_one]; simpa using h1
      have hm : kid1B (fun x => shF (shE f) methodB x) n.kids = false := by
        match hks : n.kids, h1 with
        | [], _ => rfl
        | [x], h1 => exact absurd rfl h1
        | x :: y :: r, _ => rfl
      rw [hm]
      obtain ⟨a, cap, rfl, hcap, hel⟩ := hk.shape
      clear hm h1 hel hk
      unfold N.val
      go_enter Tryz.func29, Tryz.ntmps29
      go_wp2_with fail
      go_ret
      exact ⟨ret_bool (by simp), (Below.refl _ _).alloc (Nat.le_refl _) _⟩

set_option maxRecDepth 100000 in
theorem e_struct (f : Nat) (hf2 : f ≤ 2147483647) (hE : EHyp f) (n : N) (v : Value) (w : World) (hn : n.size ≤ f + 1) (hk : KidsAt (· < w.heap.size) w v n.kids) (hkd : n.kind.toList = [115, 116, 114, 117, 99, 116]) :
    Calls Tryz.prog 29 #[n.val v] w fun e w' => e = .returned (.bool (shE (f + 1) n)) ∧ Below w.heap.size w w' := by
  have hs : shE (f + 1) n = (n.text.toList.isEmpty && kid1B (fun x => shF (shE f) (fun _ => true) x) n.kids) := by simp [shE, isK, hkd]
  rw [hs]
  clear hs
  cases ht : n.text.toList.isEmpty with
  | false =>
    rw [Bool.false_and]
    obtain ⟨a, cap, rfl, hcap, hel⟩ := hk.shape
    clear hel hk
    unfold N.val
    go_enter Tryz.func29, Tryz.ntmps29
    go_wp2_with fail
    go_ret
    exact ⟨ret_bool (by simp), (Below.refl _ _).alloc (Nat.le_refl _) _⟩
  | true =>
    by_cases h1 : n.kids.length = 1
    · obtain ⟨x, hx⟩ : ∃ x, n.kids = [x] := by
        match hks : n.kids, h1 with
        | [x], _ => exact ⟨x, rfl⟩
      have h1b : ((n.kids.length : Int) == 1) = true := by rw [h1]; rfl
      have hl0n : 0 < n.kids.length := by omega
      have hl0 : (0 : Int) < (n.kids.length : Int) := by omega
      have hsz : x.size ≤ f := by have := N.size_kid (m := n) (n := x) (i := 0) (by rw [hx]; rfl); omega
      obtain ⟨b, o, cap, a2, cap2, rfl, hcap, hb, c0, c1, c2, hxk⟩ := hk.kid0 hx
      have hm : kid1B (fun x => shF (shE f) (fun _ => true) x) n.kids = shF (shE f) (fun _ => true) x := by rw [hx]; rfl
      rw [hm]
      have HXK := Lib.hid hxk
      have HE := Lib.hid hE
      clear hx h1 hxk hm hk hE
      unfold N.val
      have hb1 := (Below.refl w.heap.size w).alloc (Nat.le_refl _) (Obj.cells #[Value.string n.kind, Value.string n.text, Value.slice (some ⟨b, o, none⟩) n.kids.length cap] 24)
      have HB1 := Lib.hid hb1
      clear hb1
      go_enter Tryz.func29, Tryz.ntmps29
      go_wp2_with fail
      refine (shF_any f hf2 (fun _ => true) (shE f) x _ _ _ hsz (HXK.out.later HB1.out) (let ⟨g, caps, hg, hc, hp⟩ := true_pred _; ⟨g, caps, hg, hc, fun n v w _ hw hk => hp n v w trivial hw hk⟩) HE.out).mono ?_
      rintro e w2 ⟨rfl, hb2⟩
      go_wp2_with fail
      go_ret
      exact ⟨ret_bool (by simp), HB1.out.trans (hb2.mono (by simp))⟩
    · have h1b : ((n.kids.length : Int) == 1) = false := by rw [cast_beq_one]; simpa using h1
      have hm : kid1B (fun x => shF (shE f) (fun _ => true) x) n.kids = false := by
        match hks : n.kids, h1 with
        | [], _ => rfl
        | [x], h1 => exact absurd rfl h1
        | x :: y :: r, _ => rfl
      rw [hm]
      obtain ⟨a, cap, rfl, hcap, hel⟩ := hk.shape
      clear hm h1 hel hk
      unfold N.val
      go_enter Tryz.func29, Tryz.ntmps29
      go_wp2_with fail
      go_ret
      exact ⟨ret_bool (by simp), (Below.refl _ _).alloc (Nat.le_refl _) _⟩
end Go.Proofs.YtoijkbkcfbbmfaaGreatDoor

