/- What is proved here: build of a declaration of values that have no values: its parts lie apart from each other. Conditions: each theorem names its own. -/
import Derived.Deep.DrawnRows
import Derived.Deep.RegionHeld3
import Derived.Test.YtoijkbkcfbbmfaaGreatDoorMe
import Derived.Test.YtoijkbkcfbbmfaaGreatDoorMc
import Derived.Test.YtoijkbkcfbbmfaaGreatDoorMi
set_option linter.all false
set_option linter.unusedVariables false
set_option linter.unusedSimpArgs false
/- What is proved here: values of a declaration whose parts lie apart from each other, and what becomes of them where other blocks change. No program is in sight. -/
namespace Go.Proofs.YtoijkbkcfbbmfaaGreatDoor
open Go.RowKit Go.Shelf
set_option linter.unusedSimpArgs false
set_option linter.unusedVariables false

/-- Names in a row of their own, each name outside the row. -/
def NS (lo hi : Nat) (w : World) (ks : List N) (r : Value) (L : List Value) : Prop :=
  w.ownsRow lo 55 1 r ks.length L ∧ Elems (At (Ex r lo hi) w) (ByPt 55) ks L ∧ ∀ g, r.ownBlock = some g → g < hi
theorem owns_to {w w' : World} {B B' e size n : Nat} {r : Value} {L : List Value} (h : w.ownsRow B e size r n L) (hs : ∀ g, r.ownBlock = some g → w'.heap[g]? = w.heap[g]?) (hB : B' ≤ B) : w'.ownsRow B' e size r n L := by
  refine ⟨h.1, ?_⟩
  rcases h.2 with h2 | ⟨g, cap, cur, rfl, hb, hg, rest⟩
  · exact .inl h2
  · exact .inr ⟨g, cap, cur, rfl, Nat.le_trans hB hb, (hs g rfl).trans hg, rest⟩
theorem owns_shape {w : World} {B e size n : Nat} {u : Value} {L : List Value} (h : w.ownsRow B e size u n L) : ∃ a c, u = .slice a n c ∧ n ≤ c := by
  rcases h.2 with ⟨rfl, rfl⟩ | ⟨g, cap, _, rfl, _, _, hc, _⟩
  · exact ⟨_, _, rfl, Nat.le_refl _⟩
  · exact ⟨_, _, rfl, hc⟩
theorem NS.step {lo hi lo' hi' : Nat} {w w' : World} {ks : List N} {r : Value} {L : List Value} (h : NS lo hi w ks r L) (hs : ∀ b, lo ≤ b → b < hi → w'.heap[b]? = w.heap[b]?) (h1 : lo' ≤ lo) (h3 : hi ≤ hi') : NS lo' hi' w' ks r L := by
  refine ⟨owns_to h.1 (fun g hg => hs g (h.1.lt g hg).1 (h.2.2 g hg)) h1, h.2.1.imp fun b o u hc => ?_, fun g hg => Nat.lt_of_lt_of_le (h.2.2 g hg) h3⟩
  obtain ⟨⟨⟨a1, a2⟩, a3⟩, a4⟩ := hc
  exact ⟨⟨⟨Nat.le_trans h1 a1, Nat.lt_of_lt_of_le a2 h3⟩, a3⟩, (World.cell?_of_block (hs b a1 a2)).trans a4⟩
theorem NS.beneath {lo lo' hi hi' B : Nat} {w w' : World} {ks : List N} {r : Value} {L : List Value} (h : NS lo hi w ks r L) (hb : Below B w w') (h1 : lo' ≤ lo) (h2 : hi ≤ B) (h3 : hi ≤ hi') : NS lo' hi' w' ks r L :=
  h.step (fun b _ hlt => hb.block b (Nat.lt_of_lt_of_le hlt h2)) h1 h3
theorem NS.wide {lo lo' hi hi' : Nat} {w : World} {ks : List N} {r : Value} {L : List Value} (h : NS lo hi w ks r L) (h1 : lo' ≤ lo) (h3 : hi ≤ hi') : NS lo' hi' w ks r L := h.step (fun _ _ _ => rfl) h1 h3
theorem NS.setX {lo hi X i : Nat} {u : Value} {w : World} {ks : List N} {r : Value} {L : List Value} (h : NS lo hi w ks r L) (hX : X < lo ∨ hi ≤ X) : NS lo hi (w.setCell ⟨X, i, none⟩ u) ks r L :=
  h.step (fun b h1 h2 => heap_setCell_other _ _ _ _ (by simp; omega)) (Nat.le_refl _) (Nat.le_refl _)
theorem NS.but {lo hi B X : Nat} {w0 w : World} {ks : List N} {r : Value} {L : List Value} (h : NS lo hi w0 ks r L) (hs : Same (But B X) w0 w) (h1 : hi ≤ B) (h2 : X < lo ∨ hi ≤ X) : NS lo hi w ks r L :=
  h.step (fun b h3 h4 => hs b ⟨Nat.lt_of_lt_of_le h4 h1, by omega⟩) (Nat.le_refl _) (Nat.le_refl _)
theorem NS.len {lo hi : Nat} {w : World} {ks : List N} {r : Value} {L : List Value} (h : NS lo hi w ks r L) : L.length = ks.length := by simpa using h.1.1
theorem NS.lst {lo hi : Nat} {w : World} {ks : List N} {r : Value} {L : List Value} (h : NS lo hi w ks r L) : Lst (Bt lo hi) w (ByPt 55) ks r L := by
  refine ⟨h.len, ?_, h.2.1.imp fun b o u hc => ⟨hc.1.1, hc.2⟩⟩
  rcases h.1.2 with ⟨e, h0⟩ | ⟨g, cap, cur, e, hb, hg, hcap, _⟩
  · exact ⟨none, 0, by rw [e, h0], by rw [h0]; exact Nat.le_refl _, fun i hi => by rw [h0] at hi; omega⟩
  · refine ⟨_, cap, e, hcap, fun i hi' => ⟨g, 0, rfl, ⟨⟨hb, h.2.2 g (by rw [e]; rfl)⟩, ?_⟩⟩⟩
    have hi2 : i < L.length := by rw [h.len]; exact hi'
    have := h.1.cells (g := g) (by rw [e]; rfl) i L[i] (List.getElem?_eq_getElem hi2)
    rw [show (⟨g, 0, none⟩ : Addr).add i = ⟨g, 0 + i, none⟩ by unfold Addr.add; split <;> simp_all] at this
    rw [this]
    simp [List.getD, hi2]

/-- A value of a declaration, its row of names, its names and its type apart from each other, in the blocks from one to another. -/
def VSep (w : World) (lo hi : Nat) (n : N) (b : Nat) : Prop := ∃ (x y z : N) (vl vy : Value) (L : List Value), n.kids = [x, y, z] ∧
  (isK n [118, 97, 108, 117, 101] = true ∧ n.text.toList.isEmpty = true ∧ isK x [108, 105, 115, 116] = true ∧ x.text.toList.isEmpty = true ∧ isK z [108, 105, 115, 116] = true ∧ z.text.toList.isEmpty = true ∧ z.kids = []) ∧ (lo ≤ b ∧ b < hi) ∧
  Blk w b 108 #[.pointer none, vl, vy, .slice none 0 0, .pointer none] ∧ NS lo b w x.kids vl L ∧ ((vy = .nilIface ∧ missing y = true) ∨ (isE vy = true ∧ Rep (At (Bt (b + 1) hi) w) y vy))
theorem VSep.step {lo hi lo' hi' b : Nat} {w w' : World} {n : N} (h : VSep w lo hi n b) (hs : ∀ k, lo ≤ k → k < hi → w'.heap[k]? = w.heap[k]?) (h1 : lo' ≤ lo) (h3 : hi ≤ hi') : VSep w' lo' hi' n b := by
  obtain ⟨x, y, z, vl, vy, L, e, hk, ⟨b1, b2⟩, hB, hN, hy⟩ := h
  refine ⟨x, y, z, vl, vy, L, e, hk, ⟨Nat.le_trans h1 b1, Nat.lt_of_lt_of_le b2 h3⟩, (hs b b1 b2).trans hB, hN.step (fun k k1 k2 => hs k k1 (Nat.lt_trans k2 b2)) h1 (Nat.le_refl _), hy.imp id fun hy => ⟨hy.1, hy.2.step fun k hk => ?_⟩⟩
  exact ⟨⟨hk.1, Nat.lt_of_lt_of_le hk.2 h3⟩, hs k (by have := hk.1; omega) hk.2⟩
theorem VSep.below {lo hi lo' hi' b B : Nat} {w w' : World} {n : N} (h : VSep w lo hi n b) (hb : Below B w w') (h1 : lo' ≤ lo) (h2 : hi ≤ B) (h3 : hi ≤ hi') : VSep w' lo' hi' n b :=
  h.step (fun k _ k2 => hb.block k (Nat.lt_of_lt_of_le k2 h2)) h1 h3
theorem VSep.rep {lo hi b : Nat} {w : World} {n : N} (h : VSep w lo hi n b) : Rep (At (Bt lo hi) w) n (Nd 101 b) := by
  obtain ⟨x, y, z, vl, vy, L, e, ⟨k1, k2, k3, k4, k5, k6, k7⟩, ⟨b1, b2⟩, hB, hN, hy⟩ := h
  have hl := (hN.wide (Nat.le_refl _) (Nat.le_of_lt b2)).lst
  obtain ⟨hp1, hp2⟩ := hl.2.2.pts (by rw [hl.1]; exact Nat.le_refl _)
  have hc : ∀ i u, (#[Value.pointer none, vl, vy, .slice none 0 0, .pointer none] : Array Value)[i]? = some u → At (Bt lo hi) w b i u := fun i u hu => ⟨⟨b1, b2⟩, hB.cell i u hu⟩
  refine .value n b x y z (fun i => ptOf (L.getD i .nilIface)) vl vy (fun _ => .nilIface) (.slice none 0 0) k1 k2 e k3 k4 k5 k6 (hc 0 _ rfl) (hc 1 _ rfl) (hl.2.1.congr hp2) hp1 (hy.imp (·.1) (·.1)) (hc 2 _ rfl) ?_ (hc 3 _ rfl) ?_ ?_ ?_ (hc 4 _ rfl)
  · rcases hy with ⟨rfl, hm⟩ | ⟨_, hr⟩
    · exact .none y hm
    · exact hr.wide (by omega) (Nat.le_refl _)
  · rw [k7]; exact ⟨none, 0, rfl, Nat.le_refl _, fun i hi => by simp at hi⟩
  · intro i m hm; rw [k7] at hm; simp at hm
  · intro i m hm; rw [k7] at hm; simp at hm
/-- A value with those of its names alone that a filter takes. -/
def filtV (p : ByteArray → Bool) (n : N) : N :=
  match n.kids with
  | [x, y, z] => .mk n.kind n.text [.mk x.kind x.text (x.kids.filter fun m => p m.text), y, z]
  | _ => n
/-- Whether names are left. -/
def leftV (p : ByteArray → Bool) (n : N) : Bool :=
  match n.kids with
  | [x, _, _] => x.kids.any fun m => p m.text
  | _ => false
/-- A value, where it lies. -/
structure Sp where
  n : N
  lo : Nat
  hi : Nat
  b : Nat
def Sp.v (s : Sp) : Value := Nd 101 s.b
/-- Values apart from each other and from the block of a row. -/
def SpIn (w : World) (lo : Nat) (v : Value) (hi : Nat) (l : List Sp) : Prop :=
  (∀ s ∈ l, lo ≤ s.lo ∧ s.hi ≤ hi ∧ (∀ g, v.ownBlock = some g → g < s.lo ∨ s.hi ≤ g) ∧ VSep w s.lo s.hi s.n s.b) ∧ l.Pairwise fun s t => s.hi ≤ t.lo
theorem SpIn.nil (w : World) (lo : Nat) (v : Value) (hi : Nat) : SpIn w lo v hi [] := ⟨fun s hs => by simp at hs, .nil⟩
theorem SpIn.snoc {lo lo2 n g cap p : Nat} {v : Value} {wr w3 w2 w1 : World} {l : List Sp} {m : N} (h : SpIn wr lo v wr.heap.size l) (hlo : lo ≤ wr.heap.size) (hown : ∀ k, v.ownBlock = some k → k < wr.heap.size) (hb : Below wr.heap.size wr w2) (h32 : Below w3.heap.size w3 w2)
    (h2 : wr.heap.size ≤ lo2) (hm : VSep w3 lo2 w3.heap.size m p) (hg : w2.grownBy w1 v.ownBlock) (hat : v.ownBlock = some g ∨ w2.heap.size ≤ g) : SpIn w1 lo (.slice (some ⟨g, 0, none⟩) n cap) w1.heap.size (l ++ [⟨m, wr.heap.size, w3.heap.size, p⟩]) := by
  have s1 := hb.size
  have s2 := h32.size
  have s3 := hg.size
  refine ⟨fun s hs => ?_, List.pairwise_append.2 ⟨h.2, List.pairwise_singleton _ _, fun s hs t ht => ?_⟩⟩
  · rcases List.mem_append.1 hs with hs | hs
    · obtain ⟨a1, a2, a3, a4⟩ := h.1 s hs
      refine ⟨a1, by omega, fun g' hg' => ?_, a4.step (fun k k1 k2 => (hg.block k (by omega) (fun e => ?_)).trans (hb.block k (by omega))) (Nat.le_refl _) (Nat.le_refl _)⟩
      · simp only [Value.ownBlock, Option.some.injEq] at hg'
        subst hg'
        rcases hat with hat | hat
        · exact a3 _ hat
        · exact .inr (by omega)
      · rcases a3 k e.symm with h | h <;> omega
    · simp only [List.mem_singleton] at hs
      subst hs
      refine ⟨hlo, by show w3.heap.size ≤ _; omega, fun g' hg' => ?_, hm.step (fun k k1 k2 => (hg.block k (by omega) (fun e => ?_)).trans (h32.block k k2)) h2 (Nat.le_refl _)⟩
      · simp only [Value.ownBlock, Option.some.injEq] at hg'
        subst hg'
        rcases hat with hat | hat
        · exact .inl (hown _ hat)
        · exact .inr (by show w3.heap.size ≤ _; omega)
      · have := hown k e.symm; omega
  · simp only [List.mem_singleton] at ht
    subst ht
    exact (h.1 s hs).2.1
theorem SpIn.set {lo X i : Nat} {v u : Value} {w : World} {l : List Sp} (h : SpIn w lo v w.heap.size l) (hX : X < lo) : SpIn (w.setCell ⟨X, i, none⟩ u) lo v (w.setCell ⟨X, i, none⟩ u).heap.size l := by
  refine ⟨fun s hs => ?_, h.2⟩
  obtain ⟨a1, a2, a3, a4⟩ := h.1 s hs
  exact ⟨a1, by simpa using a2, a3, a4.step (fun k k1 k2 => heap_setCell_other _ _ _ _ (by simp; omega)) (Nat.le_refl _) (Nat.le_refl _)⟩
/-- A declaration of values, its parts apart from each other. -/
def GSep (w : World) (lo : Nat) (n : N) (b : Nat) : Prop := ∃ (l : List Sp) (vv : Value) (t d : Nat) (u5 : Value), tokOf n = some t ∧ ((n.text.toList = [] ∧ d = 0) ∨ (n.text.toList = [103, 114, 111, 117, 112] ∧ d = 1)) ∧ lo ≤ b ∧
  Blk w b 70 #[.pointer none, .int .i64 1, .int .i64 t, .int .i64 d, vv, u5] ∧ w.ownsRow (b + 1) 73 1 vv n.kids.length (l.map Sp.v) ∧ SpIn w (b + 1) vv w.heap.size l ∧ l.map Sp.n = n.kids
theorem GSep.rep {w : World} {lo b : Nat} {n : N} (h : GSep w lo n b) : Rep (At (Bt lo w.heap.size) w) n (Nd 66 b) := by
  obtain ⟨l, vv, t, d, u5, ht, hd, hlo, hB, ho, hs, hn⟩ := h
  have hc : ∀ i u, (#[Value.pointer none, .int .i64 1, .int .i64 t, .int .i64 d, vv, u5] : Array Value)[i]? = some u → At (Bt lo w.heap.size) w b i u := fun i u hu => ⟨⟨hlo, hB.lt⟩, hB.cell i u hu⟩
  have hel : ∀ (i : Nat) (m : N), n.kids[i]? = some m → ∃ s, s ∈ l ∧ s.n = m ∧ (l.map Sp.v).getD i .nilIface = s.v := by
    intro i m hi
    rw [← hn, List.getElem?_map] at hi
    cases hl : l[i]? with
    | none => simp [hl] at hi
    | some s =>
      simp [hl] at hi
      exact ⟨s, List.mem_of_getElem? hl, hi, by simp [List.getD, hl]⟩
  refine .gen n b (fun i => (l.map Sp.v).getD i .nilIface) vv t d ht hd (hc 0 _ rfl) (hc 2 _ rfl) (hc 3 _ rfl) (hc 4 _ rfl) ((lat_of_owns ho (by omega : lo ≤ b + 1))) (fun i m hi => ?_) (fun i m hi => ?_)
  · obtain ⟨s, _, _, h3⟩ := hel i m hi
    rw [h3]
    rfl
  · obtain ⟨s, h1, rfl, h3⟩ := hel i m hi
    rw [h3]
    obtain ⟨a1, a2, _, a4⟩ := hs.1 s h1
    exact a4.rep.wide (by omega) a2
/-- A value that has no values. -/
def bareV (m : N) : Bool := valueB 400 m && (match m.kids with | [_, _, z] => z.kids.isEmpty | _ => false)
end Go.Proofs.YtoijkbkcfbbmfaaGreatDoor

/- What is proved here: the builder's values of a declaration that have no values: their parts lie apart. -/
namespace Go.Proofs.YtoijkbkcfbbmfaaGreatDoor
open Go.RowKit Go.Shelf
set_option linter.unusedSimpArgs false
set_option linter.unusedVariables false
attribute [local go_sem] fld_0 fld_1 fld_2
attribute [local go_sem ↓] Go.wp_at_zero Go.wp_at_succ

set_option maxHeartbeats 4000000 in
set_option maxRecDepth 100000 in
theorem v_value_none (f : Nat) (hE : BE f) (hS : BS f) (n : N) (v : Value) (bb : Nat) (w : World) (hn : n.size ≤ 400) (hkd : n.kind.toList = [118, 97, 108, 117, 101]) (htx : n.text.toList.isEmpty = true) (x y z : N) (hx : n.kids = [x, y, z]) (hkx : isK x [108, 105, 115, 116] = true) (htx1 : x.text.toList.isEmpty = true) (hkz : isK z [108, 105, 115, 116] = true) (htz : z.text.toList.isEmpty = true) (hxn : x.kids.all isName = true) (hzn : z.kids.all (shE f) = true) (hmy : missing y = true) (hz0 : z.kids = []) (hk : KidsAt (· < w.heap.size) w v n.kids) (hB : Bd w bb) :
    Calls Tryz.prog 39 #[Pt bb, n.val v] w fun e w' => ∃ b, e = .returned (Nd 101 b) ∧ Below w.heap.size w w' ∧ VSep w' w.heap.size w'.heap.size n b := by
  have hkb : isK n [118, 97, 108, 117, 101] = true := by simp [isK, hkd]
  have HX := Lib.hid hx
  have hxs : x.size ≤ 400 := by have := N.size_kid (m := n) (n := x) (i := 0) (by rw [hx]; rfl); omega
  have hxl : x.kids.length ≤ 2147483647 := by have := N.len_lt x; omega
  have hys : y.size ≤ 400 := by have := N.size_kid (m := n) (n := y) (i := 1) (by rw [hx]; rfl); omega
  have hzs : z.size ≤ 400 := by have := N.size_kid (m := n) (n := z) (i := 2) (by rw [hx]; rfl); omega
  have hzl : z.kids.length ≤ 400 := by have := N.len_lt z; omega
  have HKB := Lib.hid hkb
  have HXN := Lib.hid hxn
  have HZN := Lib.hid hzn
  have HZ0 := Lib.hid hz0
  clear hz0
  obtain ⟨i0, hi, hz0, hz1, hz2⟩ := info_parts info83
  have HI := Lib.hid (And.intro hi (And.intro hz0 (And.intro hz1 hz2)))
  clear hx hkb hxn hzn hi hz0 hz1 hz2
  have HE := Lib.hid hE
  have HS := Lib.hid hS
  clear hE hS
  obtain ⟨a, cap, rfl, hcap, hel⟩ := hk.shape
  have hlen := N.len_lt n
  have HK := Lib.hid hk
  have HBd := Lib.hid hB
  have HW0 := Lib.hid ((Below.refl w.heap.size w).alloc (Nat.le_refl _) (Obj.cells #[Value.string n.kind, Value.string n.text, Value.slice a n.kids.length cap] 24))
  have BN0 : Hid (Blk (w.alloc (Obj.cells #[Value.string n.kind, Value.string n.text, Value.slice a n.kids.length cap] 24)) w.heap.size 24 #[Value.string n.kind, Value.string n.text, Value.slice a n.kids.length cap]) := Lib.hid (Blk.new w _ 24)
  have hs0 : ((w.alloc (Obj.cells #[Value.string n.kind, Value.string n.text, Value.slice a n.kids.length cap] 24))).heap.size = w.heap.size + 1 := by simp
  have HS0 := Lib.hid hs0
  clear hk hB hel hs0
  unfold N.val
  go_enter Tryz.func39, Tryz.ntmps39
  have e00 := BN0.out.cell 0 _ rfl
  have e10 := BN0.out.cell 1 _ rfl
  have e20 := BN0.out.cell 2 _ rfl
  have en0 := BN0.out.lt
  go_wp2_with fail
  refine (kid_any n _ 0 x _ (HK.out.later HW0.out) (by rw [HX.out]; rfl)).mono ?_
  rintro ek1 wk1 ⟨vk1, rfl, hb1, hk1⟩
  have HK1 := Lib.hid hk1
  clear hk1
  have sz2 := hb1.size
  try simp only [World.size_setCell, World.size_alloc] at sz2
  have HW2 := Lib.hid (HW0.out.trans (hb1.mono (by (try simp only [World.size_setCell, World.size_alloc]); omega)))
  have BN2 := Lib.hid (BN0.out.later hb1 (by (try simp only [World.size_setCell, World.size_alloc]); omega))
  clear HW0 BN0 e00 e10 e20 en0
  clear hb1
  obtain ⟨ak1, ck1, hvk1, hck1, hel1⟩ := id HK1.out.shape
  subst hvk1
  have HEL1 := Lib.hid hel1
  clear hel1
  unfold N.val
  have e02 := BN2.out.cell 0 _ rfl
  have e12 := BN2.out.cell 1 _ rfl
  have e22 := BN2.out.cell 2 _ rfl
  have en2 := BN2.out.lt
  go_wp2_with fail
  refine (names_own bb x.kids _ _ (HBd.out.later HW2.out) HK1.out hxl HXN.out).mono ?_
  rintro el wl ⟨vl, rfl, hbl, L, hown0, helm⟩
  obtain ⟨al, capl, hvl, _⟩ := owns_shape hown0
  subst hvl
  have szl := hbl.size
  have sz4 := hbl.size
  try simp only [World.size_setCell, World.size_alloc] at sz4
  have HW4 := Lib.hid (HW2.out.trans (hbl.mono (by (try simp only [World.size_setCell, World.size_alloc]); omega)))
  have BN4 := Lib.hid (BN2.out.later hbl (by (try simp only [World.size_setCell, World.size_alloc]); omega))
  clear HW2 BN2 e02 e12 e22 en2
  have Rl4 := Lib.hid (show NS _ _ _ _ _ _ from ⟨hown0, helm, fun g hg => (hown0.lt g hg).2⟩)
  clear hbl hown0 helm
  have e04 := BN4.out.cell 0 _ rfl
  have e14 := BN4.out.cell 1 _ rfl
  have e24 := BN4.out.cell 2 _ rfl
  have en4 := BN4.out.lt
  go_wp2_with fail
  have sx5 : ((wl.alloc (Obj.cells #[Value.pointer none, Value.slice al x.kids.length capl, Value.nilIface, Value.slice none 0 0, Value.pointer none] 108))).heap.size = (wl).heap.size + 1 := by simp only [World.size_alloc]
  have HW5 := Lib.hid (HW4.out.alloc (by (try simp only [World.size_setCell, World.size_alloc]); omega) (Obj.cells #[Value.pointer none, Value.slice al x.kids.length capl, Value.nilIface, Value.slice none 0 0, Value.pointer none] 108))
  have BN5 := Lib.hid (BN4.out.later ((Below.refl (wl).heap.size wl).alloc (Nat.le_refl _) (Obj.cells #[Value.pointer none, Value.slice al x.kids.length capl, Value.nilIface, Value.slice none 0 0, Value.pointer none] 108)) (by (try simp only [World.size_setCell, World.size_alloc]); omega))
  have BX5 := Lib.hid (Blk.new wl #[Value.pointer none, Value.slice al x.kids.length capl, Value.nilIface, Value.slice none 0 0, Value.pointer none] 108)
  have Rl5 := Lib.hid (Rl4.out.beneath ((Below.refl (wl).heap.size wl).alloc (Nat.le_refl _) (Obj.cells #[Value.pointer none, Value.slice al x.kids.length capl, Value.nilIface, Value.slice none 0 0, Value.pointer none] 108)) (Nat.le_refl _) (by (try simp only [World.size_setCell, World.size_alloc]); omega) (Nat.le_refl _))
  clear HW4 BN4 Rl4 e04 e14 e24 en4
  try simp only [World.size_setCell, World.size_alloc] at BX5 sx5
  have e05 := BN5.out.cell 0 _ rfl
  have e15 := BN5.out.cell 1 _ rfl
  have e25 := BN5.out.cell 2 _ rfl
  have en5 := BN5.out.lt
  refine (kid_any n _ 1 y _ (HK.out.later HW5.out) (by rw [HX.out]; rfl)).mono ?_
  rintro ek6 wk6 ⟨vk6, rfl, hb6, hk6⟩
  have HK6 := Lib.hid hk6
  clear hk6
  have sz7 := hb6.size
  try simp only [World.size_setCell, World.size_alloc] at sz7
  have HW7 := Lib.hid (HW5.out.trans (hb6.mono (by (try simp only [World.size_setCell, World.size_alloc]); omega)))
  have BN7 := Lib.hid (BN5.out.later hb6 (by (try simp only [World.size_setCell, World.size_alloc]); omega))
  have BX7 := Lib.hid (BX5.out.later hb6 (by (try simp only [World.size_setCell, World.size_alloc]); omega))
  have Rl7 := Lib.hid (Rl5.out.beneath hb6 (Nat.le_refl _) (by (try simp only [World.size_setCell, World.size_alloc]); omega) (Nat.le_refl _))
  clear HW5 BN5 BX5 Rl5 e05 e15 e25 en5
  clear hb6
  go_wp2_with fail
  refine (expr_none bb y vk6 _ hmy HK6.out).mono ?_
  rintro e8n wc8 ⟨rfl, hb8⟩
  have sz9 := hb8.size
  try simp only [World.size_setCell, World.size_alloc] at sz9
  have HW9 := Lib.hid (HW7.out.trans (hb8.mono (by (try simp only [World.size_setCell, World.size_alloc]); omega)))
  have BN9 := Lib.hid (BN7.out.later hb8 (by (try simp only [World.size_setCell, World.size_alloc]); omega))
  have BX9 := Lib.hid (BX7.out.later hb8 (by (try simp only [World.size_setCell, World.size_alloc]); omega))
  have Rl9 := Lib.hid (Rl7.out.beneath hb8 (Nat.le_refl _) (by (try simp only [World.size_setCell, World.size_alloc]); omega) (Nat.le_refl _))
  clear HW7 BN7 BX7 Rl7
  clear hb8
  have x29c := BX9.out.cell 2 _ rfl
  have x29f := BX9.out.frozen 2
  have x29l := BX9.out.lt
  have e09 := BN9.out.cell 0 _ rfl
  have e19 := BN9.out.cell 1 _ rfl
  have e29 := BN9.out.cell 2 _ rfl
  have en9 := BN9.out.lt
  have sb10 := BX9.out.lt
  have HW10 := Lib.hid (HW9.out.setCell (p := ⟨wl.heap.size, 2, none⟩) (by show w.heap.size ≤ wl.heap.size; omega) Value.nilIface)
  have BN10 := Lib.hid (BN9.out.other (wl.heap.size) 2 Value.nilIface (by omega))
  have BX10 := Lib.hid (BX9.out.set 2 Value.nilIface)
  have Rl10 := Lib.hid (Rl9.out.setX (X := wl.heap.size) (i := 2) (u := Value.nilIface) (by omega))
  clear HW9 BN9 BX9 Rl9
  go_wp2_with fail
  refine (kid_old w.heap.size n _ 2 z _ (HK.out.under HW10.out) (by have := HW10.out.size; exact this) (by rw [HX.out]; rfl)).mono ?_
  rintro ek11 wk11 ⟨vk11, rfl, hb11, hk11⟩
  have HK11 := Lib.hid hk11
  clear hk11
  have sz12 := hb11.size
  try simp only [World.size_setCell, World.size_alloc] at sz12
  have HW12 := Lib.hid (HW10.out.trans (hb11.mono (by (try simp only [World.size_setCell, World.size_alloc]); omega)))
  have BN12 := Lib.hid (BN10.out.later hb11 (by (try simp only [World.size_setCell, World.size_alloc]); omega))
  have BX12 := Lib.hid (BX10.out.later hb11 (by (try simp only [World.size_setCell, World.size_alloc]); omega))
  have Rl12 := Lib.hid (Rl10.out.beneath hb11 (Nat.le_refl _) (by (try simp only [World.size_setCell, World.size_alloc]); omega) (Nat.le_refl _))
  clear HW10 BN10 BX10 Rl10 x29c x29f x29l e09 e19 e29 en9
  clear hb11
  obtain ⟨ak11, ck11, hvk11, hck11, hel11⟩ := id HK11.out.shape
  subst hvk11
  have HEL11 := Lib.hid hel11
  clear hel11
  unfold N.val
  go_wp2_with fail

  have HWz := HW12
  go_loopw [57] (fun i wr => ∃ (j : Nat) (M : List Value) (vv : Value), j ≤ z.kids.length ∧ i = .int .i64 j ∧ Blk wr wl.heap.size 108 #[Value.pointer none, Value.slice al x.kids.length capl, Value.nilIface, vv, Value.pointer none] ∧ wr.ownsRow wk11.heap.size 105 1 vv j M ∧ Below w.heap.size w wr ∧ wk11.heap.size ≤ wr.heap.size ∧ Same (But wk11.heap.size wl.heap.size) wk11 wr ∧ Elems (At (Ex vv wk11.heap.size wr.heap.size) wr) ByE z.kids M ∧ (j = 0 → vv = .slice none 0 0))
    (fun i _ => z.kids.length - (intOf i).toNat)
  case atStart =>
    exact ⟨0, [], .slice none 0 0, Nat.zero_le _, rfl, BX12.out, World.ownsRow_nil _ _ _ _, HW12.out, Nat.le_refl _, Same.refl _ _, Elems.nil _ _ _, fun _ => rfl⟩
  case round =>
    obtain ⟨j, M, vv, hj, rfl, hblk, hown, hbel, hsr, hsame, hE2, hnz⟩ := hrel
    have HNZ := Lib.hid hnz
    clear hnz
    have HBLK := Lib.hid hblk
    have HOWN := Lib.hid hown
    have HBEL := Lib.hid hbel
    have HSAME := Lib.hid hsame
    have HE2 := Lib.hid hE2
    clear hblk hown hbel hE2 hsame
    have hszW := HW12.out.size
    have hXlt := BX12.out.lt
    by_cases hjl : j < z.kids.length
    · have hjl' : (j : Int) < (z.kids.length : Int) := by omega
      obtain ⟨b, o, V, hae, hb, c0, c1, c2, hV⟩ := HEL11.out j z.kids[j] (List.getElem?_eq_getElem hjl)
      subst hae
      have hneX : b ≠ wl.heap.size := by omega
      have c0' := (HSAME.out.cell (b := b) (o := o + j * 3) (s := none) ⟨by omega, hneX⟩).trans c0
      have c1' := (HSAME.out.cell (b := b) (o := o + j * 3 + 1) (s := none) ⟨by omega, hneX⟩).trans c1
      have c2' := (HSAME.out.cell (b := b) (o := o + j * 3 + 2) (s := none) ⟨by omega, hneX⟩).trans c2
      obtain ⟨a2, cap2, rfl, _, _⟩ := hV.shape
      have HV := Lib.hid (((hV.same (w' := wr) (fun b hb => HSAME.out b ⟨by omega, by omega⟩))).mono (fun b (hb : b < w.heap.size) => (show b < wr.heap.size by omega)))
      have hgj : z.kids[j]? = some z.kids[j] := List.getElem?_eq_getElem hjl
      have hsz : shE f z.kids[j] = true := List.all_eq_true.1 HZN.out _ (List.getElem_mem hjl)
      have hjs : z.kids[j].size ≤ 400 := by have := N.size_kid (m := z) hgj; omega
      have HGJ := Lib.hid hgj
      have HSZ := Lib.hid hsz
      clear hV hgj hsz c0 c1 c2
      have y1 := HBLK.out.cell 3 _ rfl
      have yf := HBLK.out.frozen 3
      have hltx := HBLK.out.lt
      go_wp2_with fail
      refine (next_any bb _ ((HBd.out.later HBEL.out).later ((Below.refl _ _).alloc (Nat.le_refl _) _))).mono ?_
      rintro en wn ⟨rfl, hwn⟩
      subst hwn
      go_wp2_with fail
      go_region_law (first
        | (refine step_call (by rfl) 58 _ _ (by rfl) #[Pt bb, z.kids[j].val (.slice a2 z.kids[j].kids.length cap2)] (by simp [Act.eval, N.val]) (enters_of Tryz.func58 (by kernel_rfl) rfl) (HE.out z.kids[j] (.slice a2 z.kids[j].kids.length cap2) bb _ hjs HSZ.out (HV.out.later (((Below.refl _ _).alloc (Nat.le_refl _) _).drew)) ((HBd.out.later HBEL.out).later (((Below.refl _ _).alloc (Nat.le_refl _) _).drew))) ?_
           rintro e w3 ⟨r3, rfl, he3, hb3, hr3⟩
           refine ⟨_, rfl, ?_⟩
           obtain ⟨t3, p3, rfl⟩ := isE_form he3 hr3
           have hbA := (((Below.refl wr.heap.size wr).alloc (Nat.le_refl _) (Obj.cells #[Value.string z.kids[j].kind, Value.string z.kids[j].text, Value.slice a2 z.kids[j].kids.length cap2] 24)).drew).trans (hb3.mono (by simp))
           have hs3 : wr.heap.size ≤ w3.heap.size := hbA.size
           have hx3 := HBLK.out.later hbA hltx
           have z1 := hx3.cell 3 _ rfl
           have zf := hx3.frozen 3
           have lt3 := hx3.lt
           have HOWN3 := Lib.hid (owns_kept HOWN.out hbA)
           have HR3 := Lib.hid hr3
           have HEE := Lib.hid he3
           have HBA := Lib.hid hbA
           have HX3 := Lib.hid hx3
           clear hb3 hr3 hbA hx3 he3)
        | (refine step_append_lies _ (by rfl) (.tmp 67) (.tmp 71) 106 (by rfl) wk11.heap.size 105 i0 .nilIface 1 16 under104 HI.out.1 HI.out.2.1 HI.out.2.2.1 HI.out.2.2.2 (by rfl) (by decide) vv j M (by simp [Act.eval]) (HOWN3.out.alloc _) ⟨w3.heap.size, 0, none⟩ 1 1 [.iface t3 (Pt p3)] (by simp [Act.eval]) (by rfl) (World.news_of_block (heap_alloc_new _ _)) (by simp [Value.oneCell']) (by decide) (by unfold maxLen; omega) (by omega) (by simp; omega) (w3.heap.size + 1) (by simp) ?_
           intro g cap' w5 hown5 hgrow5 hat5 hlt5
           have hbC := HBA.out.alloc hs3 (.cells #[.iface t3 (Pt p3)] 105)
           have HE5 := Lib.hid (elems_step (n := j + 1) (cap := cap') HE2.out hsr (fun k hk => (HOWN.out.lt k hk).2) hbC (HR3.out.beneath ((Below.refl w3.heap.size w3).alloc (Nat.le_refl _) (.cells #[.iface t3 (Pt p3)] 105)) (by simp) (Nat.le_refl _) (by simp)) ⟨rfl, HEE.out⟩ hgrow5 (hat5.imp id (fun h => by simp; omega)) (by simpa using HOWN3.out.1) HGJ.out)
           have HB5 := Lib.hid ((HBEL.out.trans (hbC.mono HBEL.out.size)).grown hgrow5 (by simp; omega) (fun k hk => by have := (HOWN.out.lt k hk).1; omega))
           have HS5 := Lib.hid (But.grown (But.below HSAME.out hbC hsr) hgrow5 (by simp; omega) (fun k hk => (HOWN.out.lt k hk).1))
           have hx5 : Blk w5 wl.heap.size 108 #[Value.pointer none, Value.slice al x.kids.length capl, Value.nilIface, vv, Value.pointer none] := (hgrow5.block _ (by simp; omega) (fun h => by have := (HOWN.out.lt _ h.symm).1; omega)).trans (HX3.out.later ((Below.refl w3.heap.size w3).alloc (Nat.le_refl _) (.cells #[.iface t3 (Pt p3)] 105)) HX3.out.lt)
           have z1 := hx5.cell 3 _ rfl
           have zf := hx5.frozen 3
           have HX5 := Lib.hid hx5
           have HO5 := Lib.hid hown5
           have hsz5 : wk11.heap.size ≤ w5.heap.size := by have := hgrow5.size; simp at this; omega
           clear hown5 hgrow5 hat5 hbC hx5))
      all_goals
        go_wp2_with fail
        go_roundw
        case rel => exact ⟨j + 1, M ++ [.iface t3 (Pt p3)], .slice (some ⟨g, 0, none⟩) (j + 1) cap', by omega, by go_num, HX5.out.set 3 _, ownsRow_setCell_below HO5.out (by simp; omega) _, HB5.out.setCell (by simp; omega) _, by simpa using hsz5, But.set HS5.out, HE5.out.set (by omega), fun h => by omega⟩
        case measure => simp [intOf]; omega
    · have hjl' : ¬ (j : Int) < (z.kids.length : Int) := by omega
      have hjj : j = z.kids.length := by omega
      subst hjj
      go_wp2_with fail
      go_ret
      have hlz := Rl12.out.but HSAME.out (by omega) (by omega)
      have hBX := HBLK.out
      obtain rfl : vv = .slice none 0 0 := HNZ.out (by rw [HZ0.out]; rfl)
      exact ⟨_, rfl, HBEL.out, x, y, z, _, _, L, HX.out, ⟨HKB.out, htx, hkx, htx1, hkz, htz, HZ0.out⟩, ⟨by omega, hBX.lt⟩, hBX, hlz.wide (by omega) (Nat.le_refl _), (.inl ⟨rfl, hmy⟩)⟩

set_option maxHeartbeats 4000000 in
set_option maxRecDepth 100000 in
theorem v_value_some (f : Nat) (hE : BE f) (hS : BS f) (n : N) (v : Value) (bb : Nat) (w : World) (hn : n.size ≤ 400) (hkd : n.kind.toList = [118, 97, 108, 117, 101]) (htx : n.text.toList.isEmpty = true) (x y z : N) (hx : n.kids = [x, y, z]) (hkx : isK x [108, 105, 115, 116] = true) (htx1 : x.text.toList.isEmpty = true) (hkz : isK z [108, 105, 115, 116] = true) (htz : z.text.toList.isEmpty = true) (hxn : x.kids.all isName = true) (hzn : z.kids.all (shE f) = true) (hsy : shE f y = true) (hz0 : z.kids = []) (hk : KidsAt (· < w.heap.size) w v n.kids) (hB : Bd w bb) :
    Calls Tryz.prog 39 #[Pt bb, n.val v] w fun e w' => ∃ b, e = .returned (Nd 101 b) ∧ Below w.heap.size w w' ∧ VSep w' w.heap.size w'.heap.size n b := by
  have hkb : isK n [118, 97, 108, 117, 101] = true := by simp [isK, hkd]
  have HX := Lib.hid hx
  have hxs : x.size ≤ 400 := by have := N.size_kid (m := n) (n := x) (i := 0) (by rw [hx]; rfl); omega
  have hxl : x.kids.length ≤ 2147483647 := by have := N.len_lt x; omega
  have hys : y.size ≤ 400 := by have := N.size_kid (m := n) (n := y) (i := 1) (by rw [hx]; rfl); omega
  have hzs : z.size ≤ 400 := by have := N.size_kid (m := n) (n := z) (i := 2) (by rw [hx]; rfl); omega
  have hzl : z.kids.length ≤ 400 := by have := N.len_lt z; omega
  have HKB := Lib.hid hkb
  have HXN := Lib.hid hxn
  have HZN := Lib.hid hzn
  have HZ0 := Lib.hid hz0
  clear hz0
  obtain ⟨i0, hi, hz0, hz1, hz2⟩ := info_parts info83
  have HI := Lib.hid (And.intro hi (And.intro hz0 (And.intro hz1 hz2)))
  have HSY := Lib.hid hsy
  clear hsy hx hkb hxn hzn hi hz0 hz1 hz2
  have HE := Lib.hid hE
  have HS := Lib.hid hS
  clear hE hS
  obtain ⟨a, cap, rfl, hcap, hel⟩ := hk.shape
  have hlen := N.len_lt n
  have HK := Lib.hid hk
  have HBd := Lib.hid hB
  have HW0 := Lib.hid ((Below.refl w.heap.size w).alloc (Nat.le_refl _) (Obj.cells #[Value.string n.kind, Value.string n.text, Value.slice a n.kids.length cap] 24))
  have BN0 : Hid (Blk (w.alloc (Obj.cells #[Value.string n.kind, Value.string n.text, Value.slice a n.kids.length cap] 24)) w.heap.size 24 #[Value.string n.kind, Value.string n.text, Value.slice a n.kids.length cap]) := Lib.hid (Blk.new w _ 24)
  have hs0 : ((w.alloc (Obj.cells #[Value.string n.kind, Value.string n.text, Value.slice a n.kids.length cap] 24))).heap.size = w.heap.size + 1 := by simp
  have HS0 := Lib.hid hs0
  clear hk hB hel hs0
  unfold N.val
  go_enter Tryz.func39, Tryz.ntmps39
  have e00 := BN0.out.cell 0 _ rfl
  have e10 := BN0.out.cell 1 _ rfl
  have e20 := BN0.out.cell 2 _ rfl
  have en0 := BN0.out.lt
  go_wp2_with fail
  refine (kid_any n _ 0 x _ (HK.out.later HW0.out) (by rw [HX.out]; rfl)).mono ?_
  rintro ek1 wk1 ⟨vk1, rfl, hb1, hk1⟩
  have HK1 := Lib.hid hk1
  clear hk1
  have sz2 := hb1.size
  try simp only [World.size_setCell, World.size_alloc] at sz2
  have HW2 := Lib.hid (HW0.out.trans (hb1.mono (by (try simp only [World.size_setCell, World.size_alloc]); omega)))
  have BN2 := Lib.hid (BN0.out.later hb1 (by (try simp only [World.size_setCell, World.size_alloc]); omega))
  clear HW0 BN0 e00 e10 e20 en0
  clear hb1
  obtain ⟨ak1, ck1, hvk1, hck1, hel1⟩ := id HK1.out.shape
  subst hvk1
  have HEL1 := Lib.hid hel1
  clear hel1
  unfold N.val
  have e02 := BN2.out.cell 0 _ rfl
  have e12 := BN2.out.cell 1 _ rfl
  have e22 := BN2.out.cell 2 _ rfl
  have en2 := BN2.out.lt
  go_wp2_with fail
  refine (names_own bb x.kids _ _ (HBd.out.later HW2.out) HK1.out hxl HXN.out).mono ?_
  rintro el wl ⟨vl, rfl, hbl, L, hown0, helm⟩
  obtain ⟨al, capl, hvl, _⟩ := owns_shape hown0
  subst hvl
  have szl := hbl.size
  have sz4 := hbl.size
  try simp only [World.size_setCell, World.size_alloc] at sz4
  have HW4 := Lib.hid (HW2.out.trans (hbl.mono (by (try simp only [World.size_setCell, World.size_alloc]); omega)))
  have BN4 := Lib.hid (BN2.out.later hbl (by (try simp only [World.size_setCell, World.size_alloc]); omega))
  clear HW2 BN2 e02 e12 e22 en2
  have Rl4 := Lib.hid (show NS _ _ _ _ _ _ from ⟨hown0, helm, fun g hg => (hown0.lt g hg).2⟩)
  clear hbl hown0 helm
  have e04 := BN4.out.cell 0 _ rfl
  have e14 := BN4.out.cell 1 _ rfl
  have e24 := BN4.out.cell 2 _ rfl
  have en4 := BN4.out.lt
  go_wp2_with fail
  have sx5 : ((wl.alloc (Obj.cells #[Value.pointer none, Value.slice al x.kids.length capl, Value.nilIface, Value.slice none 0 0, Value.pointer none] 108))).heap.size = (wl).heap.size + 1 := by simp only [World.size_alloc]
  have HW5 := Lib.hid (HW4.out.alloc (by (try simp only [World.size_setCell, World.size_alloc]); omega) (Obj.cells #[Value.pointer none, Value.slice al x.kids.length capl, Value.nilIface, Value.slice none 0 0, Value.pointer none] 108))
  have BN5 := Lib.hid (BN4.out.later ((Below.refl (wl).heap.size wl).alloc (Nat.le_refl _) (Obj.cells #[Value.pointer none, Value.slice al x.kids.length capl, Value.nilIface, Value.slice none 0 0, Value.pointer none] 108)) (by (try simp only [World.size_setCell, World.size_alloc]); omega))
  have BX5 := Lib.hid (Blk.new wl #[Value.pointer none, Value.slice al x.kids.length capl, Value.nilIface, Value.slice none 0 0, Value.pointer none] 108)
  have Rl5 := Lib.hid (Rl4.out.beneath ((Below.refl (wl).heap.size wl).alloc (Nat.le_refl _) (Obj.cells #[Value.pointer none, Value.slice al x.kids.length capl, Value.nilIface, Value.slice none 0 0, Value.pointer none] 108)) (Nat.le_refl _) (by (try simp only [World.size_setCell, World.size_alloc]); omega) (Nat.le_refl _))
  clear HW4 BN4 Rl4 e04 e14 e24 en4
  try simp only [World.size_setCell, World.size_alloc] at BX5 sx5
  have e05 := BN5.out.cell 0 _ rfl
  have e15 := BN5.out.cell 1 _ rfl
  have e25 := BN5.out.cell 2 _ rfl
  have en5 := BN5.out.lt
  refine (kid_any n _ 1 y _ (HK.out.later HW5.out) (by rw [HX.out]; rfl)).mono ?_
  rintro ek6 wk6 ⟨vk6, rfl, hb6, hk6⟩
  have HK6 := Lib.hid hk6
  clear hk6
  have sz7 := hb6.size
  try simp only [World.size_setCell, World.size_alloc] at sz7
  have HW7 := Lib.hid (HW5.out.trans (hb6.mono (by (try simp only [World.size_setCell, World.size_alloc]); omega)))
  have BN7 := Lib.hid (BN5.out.later hb6 (by (try simp only [World.size_setCell, World.size_alloc]); omega))
  have BX7 := Lib.hid (BX5.out.later hb6 (by (try simp only [World.size_setCell, World.size_alloc]); omega))
  have Rl7 := Lib.hid (Rl5.out.beneath hb6 (Nat.le_refl _) (by (try simp only [World.size_setCell, World.size_alloc]); omega) (Nat.le_refl _))
  clear HW5 BN5 BX5 Rl5 e05 e15 e25 en5
  clear hb6
  go_wp2_with fail
  refine (HE.out y vk6 bb _ hys HSY.out HK6.out (HBd.out.later HW7.out)).mono ?_
  rintro ec8 wc8 ⟨ry, rfl, hexy, hb8, hr8⟩
  have szz8 := hb8.size
  try simp only [World.size_setCell, World.size_alloc] at szz8
  have sz9 := hb8.size
  try simp only [World.size_setCell, World.size_alloc] at sz9
  have HW9 := Lib.hid (HW7.out.trans (hb8.mono (by (try simp only [World.size_setCell, World.size_alloc]); omega)))
  have BN9 := Lib.hid (BN7.out.later hb8 (by (try simp only [World.size_setCell, World.size_alloc]); omega))
  have BX9 := Lib.hid (BX7.out.later hb8 (by (try simp only [World.size_setCell, World.size_alloc]); omega))
  have Rl9 := Lib.hid (Rl7.out.beneath hb8 (Nat.le_refl _) (by (try simp only [World.size_setCell, World.size_alloc]); omega) (Nat.le_refl _))
  clear HW7 BN7 BX7 Rl7
  try simp only [World.size_setCell, World.size_alloc] at hr8
  have Ry9 := Lib.hid hr8
  clear hb8 hr8
  obtain ⟨ty, py, rfl⟩ := isE_form hexy Ry9.out
  have x29c := BX9.out.cell 2 _ rfl
  have x29f := BX9.out.frozen 2
  have x29l := BX9.out.lt
  have e09 := BN9.out.cell 0 _ rfl
  have e19 := BN9.out.cell 1 _ rfl
  have e29 := BN9.out.cell 2 _ rfl
  have en9 := BN9.out.lt
  have sb10 := BX9.out.lt
  have HW10 := Lib.hid (HW9.out.setCell (p := ⟨wl.heap.size, 2, none⟩) (by show w.heap.size ≤ wl.heap.size; omega) (.iface ty (Pt py)))
  have BN10 := Lib.hid (BN9.out.other (wl.heap.size) 2 (.iface ty (Pt py)) (by omega))
  have BX10 := Lib.hid (BX9.out.set 2 (.iface ty (Pt py)))
  have Rl10 := Lib.hid (Rl9.out.setX (X := wl.heap.size) (i := 2) (u := (.iface ty (Pt py))) (by omega))
  have Ry10 := Lib.hid (Ry9.out.setX (X := wl.heap.size) (i := 2) (u := (.iface ty (Pt py))) (by omega))
  clear HW9 BN9 BX9 Rl9 Ry9
  go_wp2_with fail
  refine (kid_old w.heap.size n _ 2 z _ (HK.out.under HW10.out) (by have := HW10.out.size; exact this) (by rw [HX.out]; rfl)).mono ?_
  rintro ek11 wk11 ⟨vk11, rfl, hb11, hk11⟩
  have HK11 := Lib.hid hk11
  clear hk11
  have sz12 := hb11.size
  try simp only [World.size_setCell, World.size_alloc] at sz12
  have HW12 := Lib.hid (HW10.out.trans (hb11.mono (by (try simp only [World.size_setCell, World.size_alloc]); omega)))
  have BN12 := Lib.hid (BN10.out.later hb11 (by (try simp only [World.size_setCell, World.size_alloc]); omega))
  have BX12 := Lib.hid (BX10.out.later hb11 (by (try simp only [World.size_setCell, World.size_alloc]); omega))
  have Rl12 := Lib.hid (Rl10.out.beneath hb11 (Nat.le_refl _) (by (try simp only [World.size_setCell, World.size_alloc]); omega) (Nat.le_refl _))
  have Ry12 := Lib.hid (Ry10.out.beneath hb11 (Nat.le_refl _) (by (try simp only [World.size_setCell, World.size_alloc]); omega) (Nat.le_refl _))
  clear HW10 BN10 BX10 Rl10 Ry10 x29c x29f x29l e09 e19 e29 en9
  clear hb11
  obtain ⟨ak11, ck11, hvk11, hck11, hel11⟩ := id HK11.out.shape
  subst hvk11
  have HEL11 := Lib.hid hel11
  clear hel11
  unfold N.val
  go_wp2_with fail

  have HWz := HW12
  go_loopw [57] (fun i wr => ∃ (j : Nat) (M : List Value) (vv : Value), j ≤ z.kids.length ∧ i = .int .i64 j ∧ Blk wr wl.heap.size 108 #[Value.pointer none, Value.slice al x.kids.length capl, (.iface ty (Pt py)), vv, Value.pointer none] ∧ wr.ownsRow wk11.heap.size 105 1 vv j M ∧ Below w.heap.size w wr ∧ wk11.heap.size ≤ wr.heap.size ∧ Same (But wk11.heap.size wl.heap.size) wk11 wr ∧ Elems (At (Ex vv wk11.heap.size wr.heap.size) wr) ByE z.kids M ∧ (j = 0 → vv = .slice none 0 0))
    (fun i _ => z.kids.length - (intOf i).toNat)
  case atStart =>
    exact ⟨0, [], .slice none 0 0, Nat.zero_le _, rfl, BX12.out, World.ownsRow_nil _ _ _ _, HW12.out, Nat.le_refl _, Same.refl _ _, Elems.nil _ _ _, fun _ => rfl⟩
  case round =>
    obtain ⟨j, M, vv, hj, rfl, hblk, hown, hbel, hsr, hsame, hE2, hnz⟩ := hrel
    have HNZ := Lib.hid hnz
    clear hnz
    have HBLK := Lib.hid hblk
    have HOWN := Lib.hid hown
    have HBEL := Lib.hid hbel
    have HSAME := Lib.hid hsame
    have HE2 := Lib.hid hE2
    clear hblk hown hbel hE2 hsame
    have hszW := HW12.out.size
    have hXlt := BX12.out.lt
    by_cases hjl : j < z.kids.length
    · have hjl' : (j : Int) < (z.kids.length : Int) := by omega
      obtain ⟨b, o, V, hae, hb, c0, c1, c2, hV⟩ := HEL11.out j z.kids[j] (List.getElem?_eq_getElem hjl)
      subst hae
      have hneX : b ≠ wl.heap.size := by omega
      have c0' := (HSAME.out.cell (b := b) (o := o + j * 3) (s := none) ⟨by omega, hneX⟩).trans c0
      have c1' := (HSAME.out.cell (b := b) (o := o + j * 3 + 1) (s := none) ⟨by omega, hneX⟩).trans c1
      have c2' := (HSAME.out.cell (b := b) (o := o + j * 3 + 2) (s := none) ⟨by omega, hneX⟩).trans c2
      obtain ⟨a2, cap2, rfl, _, _⟩ := hV.shape
      have HV := Lib.hid (((hV.same (w' := wr) (fun b hb => HSAME.out b ⟨by omega, by omega⟩))).mono (fun b (hb : b < w.heap.size) => (show b < wr.heap.size by omega)))
      have hgj : z.kids[j]? = some z.kids[j] := List.getElem?_eq_getElem hjl
      have hsz : shE f z.kids[j] = true := List.all_eq_true.1 HZN.out _ (List.getElem_mem hjl)
      have hjs : z.kids[j].size ≤ 400 := by have := N.size_kid (m := z) hgj; omega
      have HGJ := Lib.hid hgj
      have HSZ := Lib.hid hsz
      clear hV hgj hsz c0 c1 c2
      have y1 := HBLK.out.cell 3 _ rfl
      have yf := HBLK.out.frozen 3
      have hltx := HBLK.out.lt
      go_wp2_with fail
      refine (next_any bb _ ((HBd.out.later HBEL.out).later ((Below.refl _ _).alloc (Nat.le_refl _) _))).mono ?_
      rintro en wn ⟨rfl, hwn⟩
      subst hwn
      go_wp2_with fail
      go_region_law (first
        | (refine step_call (by rfl) 58 _ _ (by rfl) #[Pt bb, z.kids[j].val (.slice a2 z.kids[j].kids.length cap2)] (by simp [Act.eval, N.val]) (enters_of Tryz.func58 (by kernel_rfl) rfl) (HE.out z.kids[j] (.slice a2 z.kids[j].kids.length cap2) bb _ hjs HSZ.out (HV.out.later (((Below.refl _ _).alloc (Nat.le_refl _) _).drew)) ((HBd.out.later HBEL.out).later (((Below.refl _ _).alloc (Nat.le_refl _) _).drew))) ?_
           rintro e w3 ⟨r3, rfl, he3, hb3, hr3⟩
           refine ⟨_, rfl, ?_⟩
           obtain ⟨t3, p3, rfl⟩ := isE_form he3 hr3
           have hbA := (((Below.refl wr.heap.size wr).alloc (Nat.le_refl _) (Obj.cells #[Value.string z.kids[j].kind, Value.string z.kids[j].text, Value.slice a2 z.kids[j].kids.length cap2] 24)).drew).trans (hb3.mono (by simp))
           have hs3 : wr.heap.size ≤ w3.heap.size := hbA.size
           have hx3 := HBLK.out.later hbA hltx
           have z1 := hx3.cell 3 _ rfl
           have zf := hx3.frozen 3
           have lt3 := hx3.lt
           have HOWN3 := Lib.hid (owns_kept HOWN.out hbA)
           have HR3 := Lib.hid hr3
           have HEE := Lib.hid he3
           have HBA := Lib.hid hbA
           have HX3 := Lib.hid hx3
           clear hb3 hr3 hbA hx3 he3)
        | (refine step_append_lies _ (by rfl) (.tmp 67) (.tmp 71) 106 (by rfl) wk11.heap.size 105 i0 .nilIface 1 16 under104 HI.out.1 HI.out.2.1 HI.out.2.2.1 HI.out.2.2.2 (by rfl) (by decide) vv j M (by simp [Act.eval]) (HOWN3.out.alloc _) ⟨w3.heap.size, 0, none⟩ 1 1 [.iface t3 (Pt p3)] (by simp [Act.eval]) (by rfl) (World.news_of_block (heap_alloc_new _ _)) (by simp [Value.oneCell']) (by decide) (by unfold maxLen; omega) (by omega) (by simp; omega) (w3.heap.size + 1) (by simp) ?_
           intro g cap' w5 hown5 hgrow5 hat5 hlt5
           have hbC := HBA.out.alloc hs3 (.cells #[.iface t3 (Pt p3)] 105)
           have HE5 := Lib.hid (elems_step (n := j + 1) (cap := cap') HE2.out hsr (fun k hk => (HOWN.out.lt k hk).2) hbC (HR3.out.beneath ((Below.refl w3.heap.size w3).alloc (Nat.le_refl _) (.cells #[.iface t3 (Pt p3)] 105)) (by simp) (Nat.le_refl _) (by simp)) ⟨rfl, HEE.out⟩ hgrow5 (hat5.imp id (fun h => by simp; omega)) (by simpa using HOWN3.out.1) HGJ.out)
           have HB5 := Lib.hid ((HBEL.out.trans (hbC.mono HBEL.out.size)).grown hgrow5 (by simp; omega) (fun k hk => by have := (HOWN.out.lt k hk).1; omega))
           have HS5 := Lib.hid (But.grown (But.below HSAME.out hbC hsr) hgrow5 (by simp; omega) (fun k hk => (HOWN.out.lt k hk).1))
           have hx5 : Blk w5 wl.heap.size 108 #[Value.pointer none, Value.slice al x.kids.length capl, (.iface ty (Pt py)), vv, Value.pointer none] := (hgrow5.block _ (by simp; omega) (fun h => by have := (HOWN.out.lt _ h.symm).1; omega)).trans (HX3.out.later ((Below.refl w3.heap.size w3).alloc (Nat.le_refl _) (.cells #[.iface t3 (Pt p3)] 105)) HX3.out.lt)
           have z1 := hx5.cell 3 _ rfl
           have zf := hx5.frozen 3
           have HX5 := Lib.hid hx5
           have HO5 := Lib.hid hown5
           have hsz5 : wk11.heap.size ≤ w5.heap.size := by have := hgrow5.size; simp at this; omega
           clear hown5 hgrow5 hat5 hbC hx5))
      all_goals
        go_wp2_with fail
        go_roundw
        case rel => exact ⟨j + 1, M ++ [.iface t3 (Pt p3)], .slice (some ⟨g, 0, none⟩) (j + 1) cap', by omega, by go_num, HX5.out.set 3 _, ownsRow_setCell_below HO5.out (by simp; omega) _, HB5.out.setCell (by simp; omega) _, by simpa using hsz5, But.set HS5.out, HE5.out.set (by omega), fun h => by omega⟩
        case measure => simp [intOf]; omega
    · have hjl' : ¬ (j : Int) < (z.kids.length : Int) := by omega
      have hjj : j = z.kids.length := by omega
      subst hjj
      go_wp2_with fail
      go_ret
      have hlz := Rl12.out.but HSAME.out (by omega) (by omega)
      have hBX := HBLK.out
      obtain rfl : vv = .slice none 0 0 := HNZ.out (by rw [HZ0.out]; rfl)
      exact ⟨_, rfl, HBEL.out, x, y, z, _, _, L, HX.out, ⟨HKB.out, htx, hkx, htx1, hkz, htz, HZ0.out⟩, ⟨by omega, hBX.lt⟩, hBX, hlz.wide (by omega) (Nat.le_refl _), (.inr ⟨hexy, (Ry12.out.but HSAME.out (by omega) (by omega)).wide (by omega) (by omega)⟩)⟩
end Go.Proofs.YtoijkbkcfbbmfaaGreatDoor

/- What is proved here: build of a declaration of values that have no values: its parts lie apart. -/
namespace Go.Proofs.YtoijkbkcfbbmfaaGreatDoor
open Go.RowKit Go.Shelf
set_option linter.unusedSimpArgs false
set_option linter.unusedVariables false
attribute [local go_sem ↓] Go.wp_at_zero Go.wp_at_succ
theorem item_sep (n : N) (v : Value) (bb : Nat) (w : World) (hn : n.size ≤ 400) (h : bareV n = true) (hk : KidsAt (· < w.heap.size) w v n.kids) (hB : Bd w bb) :
    Calls Tryz.prog 39 #[Pt bb, n.val v] w fun e w' => ∃ b, e = .returned (Nd 101 b) ∧ Below w.heap.size w w' ∧ VSep w' w.heap.size w'.heap.size n b := by
  obtain ⟨hE, hS⟩ := b_all 400
  simp only [bareV, valueB, Bool.and_eq_true] at h
  obtain ⟨⟨⟨h1, htx⟩, h2⟩, h3⟩ := h
  match hks : n.kids, h2, h3 with
  | [x, y, z], h2, h3 =>
    simp only [kid3B, valueB3, Bool.and_eq_true] at h2
    obtain ⟨⟨⟨⟨a1, a2⟩, a3⟩, a4⟩, ⟨⟨⟨a5, a6⟩, a7⟩, a8⟩⟩ := h2
    have h0 : z.kids = [] := by simpa using h3
    cases hm : missing y with
    | true => exact v_value_none 400 hE hS n v bb w hn (isK_eq h1) htx x y z hks a1 a2 a3 a4 a6 a8 hm h0 hk hB
    | false =>
      have hsy : shE 400 y = true := by
        unfold orB at a7
        rw [hm] at a7
        simpa using a7
      exact v_value_some 400 hE hS n v bb w hn (isK_eq h1) htx x y z hks a1 a2 a3 a4 a6 a8 hsy h0 hk hB

set_option maxHeartbeats 4000000 in
set_option maxRecDepth 100000 in
theorem bsep_gen0 (n : N) (v : Value) (w : World) (hn : n.size ≤ 400) (i : Nat) (l : List UInt8) (hl : tokW[i]? = some l) (hkd : n.kind.toList = [100, 101, 99, 108, 97, 114, 101, 32] ++ l) (htx : n.text.toList = [])
    (hit : ∀ m ∈ n.kids, bareV m = true) (htk : tokOf n = some (61 + i)) (hT : TokTab w) (hk : KidsAt (· < w.heap.size) w v n.kids) (h0 : 0 < w.heap.size) :
    Calls Tryz.prog 18 #[n.val v, .slice none 0 0] w fun e w' => ∃ b, e = .returned (Nd 66 b) ∧ Below w.heap.size w w' ∧ GSep w' w.heap.size n b := by
  obtain ⟨a, cap, rfl, hcap, hel⟩ := hk.shape
  have hlen := N.len_lt n
  have hi25 := tokW_len hl
  have hf : (n.kind.toList == [102, 117, 110, 99]) = false := by rw [hkd, beq_eq_false_iff_ne]; simp
  have hsz : n.kind.size = 8 + l.length := by
    have h1 := congrArg List.length hkd
    rw [ByteArray.toList_eq] at h1
    simp at h1
    omega
  have hlp : 0 < l.length := by
    have := tokW_some l (List.mem_of_getElem? hl)
    cases l with
    | nil => simp at this
    | cons => simp
  have hl1000 : l.length ≤ 1000 := by
    have hall : tokW.all (fun l => decide (l.length ≤ 1000)) = true := by decide
    simpa using List.all_eq_true.1 hall _ (List.mem_of_getElem? hl)
  have h8 : (8 : Int) < (n.kind.size : Int) := by omega
  have h8' : 8 ≤ n.kind.size := by omega
  have hbig : (n.kind.size : Int) ≤ 2000 := by omega
  have htx1 : n.text.toList.isEmpty = true := by rw [htx]; rfl
  have htx2 : (n.text.toList == []) = true := by rw [htx]; rfl
  have HTX := Lib.hid htx
  have HL := Lib.hid hl
  have HKD := Lib.hid hkd
  have HTK := Lib.hid htk
  have HT := Lib.hid hT
  have HEL := Lib.hid hel
  have HK := Lib.hid hk
  have HIT := Lib.hid hit
  have HSZ := Lib.hid hsz
  have BN0 : Hid (Blk ((w.alloc (Obj.cells #[Value.string n.kind, Value.string n.text, Value.slice a n.kids.length cap] 24)).alloc (Obj.cells #[Value.slice none 0 0] 48)) w.heap.size 24 #[Value.string n.kind, Value.string n.text, Value.slice a n.kids.length cap]) := Lib.hid ((Blk.new w _ _).later ((Below.refl (w.heap.size + 1) _).alloc (by simp) _) (by omega))
  have bB0 : Blk ((w.alloc (Obj.cells #[Value.string n.kind, Value.string n.text, Value.slice a n.kids.length cap] 24)).alloc (Obj.cells #[Value.slice none 0 0] 48)) (w.heap.size + 1) 48 #[Value.slice none 0 0] := by simpa using Blk.new (w.alloc (Obj.cells #[Value.string n.kind, Value.string n.text, Value.slice a n.kids.length cap] 24)) #[Value.slice none 0 0] 48
  have HD0 : Hid (Bd ((w.alloc (Obj.cells #[Value.string n.kind, Value.string n.text, Value.slice a n.kids.length cap] 24)).alloc (Obj.cells #[Value.slice none 0 0] 48)) (w.heap.size + 1)) := Lib.hid ⟨bB0.lt, none, 0, bB0.cell 0 _ rfl⟩
  clear bB0 hk hel htx hl hkd htk hT hit hsz
  unfold N.val
  go_enter Tryz.func18, Tryz.ntmps18
  go_wp2_with fail
  refine (next_any _ _ HD0.out).mono ?_
  rintro e0 w0 ⟨rfl, hw0⟩
  subst hw0
  go_wp2_with fail
  have hsl : (n.kind.extract 8 n.kind.size).toList = l := by
    have h1 := HKD.out
    rw [ByteArray.toList_eq] at h1 ⊢
    have h2 := HSZ.out
    have h3 : n.kind.data.toList.length = 8 + l.length := by rw [h1]; simp; omega
    rw [ByteArray.data_extract, Array.toList_extract, h1]
    simp [List.extract_eq_take_drop]
    rw [h2]
    simp
  have HSL : Hid (tokW[i]? = some (n.kind.extract 8 n.kind.size).toList) := Lib.hid (by rw [hsl]; exact HL.out)
  have HW3 := Lib.hid ((((Below.refl w.heap.size w).alloc (Nat.le_refl _) (Obj.cells #[Value.string n.kind, Value.string n.text, Value.slice a n.kids.length cap] 24)).alloc (by simp) (Obj.cells #[Value.slice none 0 0] 48)).alloc (by simp; omega) (Obj.cells #[Value.pointer none, Value.int .i64 1, Value.int .i64 0, Value.int .i64 0, Value.slice none 0 0, Value.int .i64 0] 70))
  refine (word_any i _ _ HSL.out (HT.out.later h0 HW3.out)).mono ?_
  rintro e1 w1 ⟨rfl, hw1⟩
  subst hw1
  clear hsl
  go_wp2_with fail
  have HW4 := Lib.hid ((((Below.refl w.heap.size w).alloc (Nat.le_refl _) (Obj.cells #[Value.string n.kind, Value.string n.text, Value.slice a n.kids.length cap] 24)).alloc (by simp) (Obj.cells #[Value.slice none 0 0] 48)).alloc (by simp; omega) (Obj.cells #[Value.pointer none, Value.int .i64 1, Value.int .i64 (61 + (i : Int)), Value.int .i64 0, Value.slice none 0 0, Value.int .i64 0] 70))
  have BN4 := Lib.hid (BN0.out.later ((Below.refl (w.heap.size + 2) _).alloc (by simp) (Obj.cells #[Value.pointer none, Value.int .i64 1, Value.int .i64 (61 + (i : Int)), Value.int .i64 0, Value.slice none 0 0, Value.int .i64 0] 70)) (by omega))
  have HD4 := Lib.hid (HD0.out.later ((Below.refl _ _).alloc (Nat.le_refl _) (Obj.cells #[Value.pointer none, Value.int .i64 1, Value.int .i64 (61 + (i : Int)), Value.int .i64 0, Value.slice none 0 0, Value.int .i64 0] 70)))
  have BX4 := Lib.hid (show Blk (((w.alloc (Obj.cells #[Value.string n.kind, Value.string n.text, Value.slice a n.kids.length cap] 24)).alloc (Obj.cells #[Value.slice none 0 0] 48)).alloc (Obj.cells #[Value.pointer none, Value.int .i64 1, Value.int .i64 (61 + (i : Int)), Value.int .i64 0, Value.slice none 0 0, Value.int .i64 0] 70)) (w.heap.size + 2) 70 #[Value.pointer none, Value.int .i64 1, Value.int .i64 (61 + (i : Int)), Value.int .i64 0, Value.slice none 0 0, Value.int .i64 0] from by simpa using Blk.new ((w.alloc (Obj.cells #[Value.string n.kind, Value.string n.text, Value.slice a n.kids.length cap] 24)).alloc (Obj.cells #[Value.slice none 0 0] 48)) #[Value.pointer none, Value.int .i64 1, Value.int .i64 (61 + (i : Int)), Value.int .i64 0, Value.slice none 0 0, Value.int .i64 0] 70)
  obtain ⟨i0, hi0, hz0, hz1, hz2⟩ := info_parts infoSpec
  have HI := Lib.hid (And.intro hi0 (And.intro hz0 (And.intro hz1 hz2)))
  clear hi0 hz0 hz1 hz2
  have hl400 : n.kids.length ≤ 400 := by omega
  go_loopw [84] (fun vi wr => ∃ (j : Nat) (l : List Sp) (vv : Value), j ≤ n.kids.length ∧ vi = .int .i64 j ∧ Blk wr w.heap.size 24 #[Value.string n.kind, Value.string n.text, Value.slice a n.kids.length cap] ∧ Bd wr (w.heap.size + 1) ∧ Blk wr (w.heap.size + 1 + 1) 70 #[Value.pointer none, Value.int .i64 1, Value.int .i64 (61 + (i : Int)), Value.int .i64 0, vv, Value.int .i64 0] ∧ wr.ownsRow (w.heap.size + 3) 73 1 vv j (l.map Sp.v) ∧ Below w.heap.size w wr ∧ w.heap.size + 3 ≤ wr.heap.size ∧ SpIn wr (w.heap.size + 3) vv wr.heap.size l ∧ l.map Sp.n = n.kids.take j)
    (fun vi _ => n.kids.length - (intOf vi).toNat)
  case atStart =>
    exact ⟨0, [], .slice none 0 0, Nat.zero_le _, rfl, BN4.out, HD4.out, BX4.out, World.ownsRow_nil _ _ _ _, HW4.out, by simp, SpIn.nil _ _ _ _, rfl⟩
  case round =>
    obtain ⟨j, l2, vv, hj, rfl, hbn, hbd, hblk, hown, hbel, hsr, hE2, hfst⟩ := hrel
    have HBN := Lib.hid hbn
    have HBD := Lib.hid hbd
    have HBLK := Lib.hid hblk
    have HOWN := Lib.hid hown
    have HBEL := Lib.hid hbel
    have HE2 := Lib.hid hE2
    have HFST := Lib.hid hfst
    clear hfst
    clear hbn hbd hblk hown hbel hE2
    by_cases hjl : j < n.kids.length
    · have hjl' : (j : Int) < (n.kids.length : Int) := by omega
      obtain ⟨b, o, V, hae, hb, c0, c1, c2, hV⟩ := HEL.out j n.kids[j] (List.getElem?_eq_getElem hjl)
      subst hae
      have c0' := (HBEL.out.cell (p := ⟨b, o + j * 3, none⟩) hb).trans c0
      have c1' := (HBEL.out.cell (p := ⟨b, o + j * 3 + 1, none⟩) hb).trans c1
      have c2' := (HBEL.out.cell (p := ⟨b, o + j * 3 + 2, none⟩) hb).trans c2
      obtain ⟨a2, cap2, rfl, _, _⟩ := hV.shape
      have HV := Lib.hid (hV.later HBEL.out)
      have hgj : n.kids[j]? = some n.kids[j] := List.getElem?_eq_getElem hjl
      have hjs : n.kids[j].size ≤ 400 := by have := N.size_kid (m := n) hgj; omega
      have HGJ := Lib.hid hgj
      have HIJ := Lib.hid (HIT.out n.kids[j] (List.getElem_mem hjl))
      clear hV hgj c0 c1 c2
      have y1 := HBLK.out.cell 4 _ rfl
      have yf := HBLK.out.frozen 4
      have hltx := HBLK.out.lt
      go_wp2_with fail
      go_region_law (first
        | (refine step_call (by rfl) 39 _ _ (by rfl) #[Pt (w.heap.size + 1), n.kids[j].val (.slice a2 n.kids[j].kids.length cap2)] (by first | (simp [Act.eval, N.val]; done) | (simp [Act.eval, Act.put, N.val]; done) | rfl) (enters_of Tryz.func39 (by kernel_rfl) rfl) (item_sep n.kids[j] (.slice a2 n.kids[j].kids.length cap2) (w.heap.size + 1) _ hjs HIJ.out (HV.out.later (((Below.refl _ _).alloc (Nat.le_refl _) _).drew)) (HBD.out.later (((Below.refl _ _).alloc (Nat.le_refl _) _).drew))) ?_
           rintro e w3 ⟨p3, rfl, hb3, hr3⟩
           refine ⟨_, rfl, ?_⟩
           have hbA := (((Below.refl wr.heap.size wr).alloc (Nat.le_refl _) (Obj.cells #[Value.string n.kids[j].kind, Value.string n.kids[j].text, Value.slice a2 n.kids[j].kids.length cap2] 24)).drew).trans (hb3.mono (by simp))
           have hs3 : wr.heap.size ≤ w3.heap.size := hbA.size
           have hx3 := HBLK.out.later hbA hltx
           have z1 := hx3.cell 4 _ rfl
           have zf := hx3.frozen 4
           have lt3 := hx3.lt
           have HOWN3 := Lib.hid (owns_kept HOWN.out hbA)
           have HR3 := Lib.hid hr3
           have HBA := Lib.hid hbA
           have HX3 := Lib.hid hx3
           clear hb3 hr3 hbA hx3)
        | (refine step_append_lies _ (by rfl) (.tmp 92) (.tmp 96) 68 (by rfl) (w.heap.size + 3) 73 i0 .nilIface 1 16 underSpecs HI.out.1 HI.out.2.1 HI.out.2.2.1 HI.out.2.2.2 (by rfl) (by decide) vv j (l2.map Sp.v) (by first | (simp [Act.eval]; done) | rfl) (HOWN3.out.alloc _) ⟨w3.heap.size, 0, none⟩ 1 1 [Nd 101 p3] (by first | (simp [Act.eval]; done) | rfl) (by rfl) (World.news_of_block (heap_alloc_new _ _)) (by simp [Value.oneCell']) (by decide) (by unfold maxLen; omega) (by omega) (by simp; omega) (w3.heap.size + 1) (by simp) ?_
           intro gg cap' w5 hown5 hgrow5 hat5 hlt5
           have hbC := HBA.out.alloc hs3 (.cells #[Nd 101 p3] 73)
           have HE5 := Lib.hid (HE2.out.snoc (n := j + 1) (cap := cap') hsr (fun k hk => (HOWN.out.lt k hk).2) hbC ((Below.refl w3.heap.size w3).alloc (Nat.le_refl _) (.cells #[Nd 101 p3] 73)) (by simp [World.drew]) HR3.out hgrow5 (hat5.imp id (fun h => by simp; omega)))
           have HB5 := Lib.hid ((HBEL.out.trans (hbC.mono HBEL.out.size)).grown hgrow5 (by simp; omega) (fun k hk => by have := (HOWN.out.lt k hk).1; omega))
           have hx5 : Blk w5 (w.heap.size + 1 + 1) 70 #[Value.pointer none, Value.int .i64 1, Value.int .i64 (61 + (i : Int)), Value.int .i64 0, vv, Value.int .i64 0] := (hgrow5.block _ (by simp; omega) (fun h => by have := (HOWN.out.lt _ h.symm).1; omega)).trans (HX3.out.later ((Below.refl w3.heap.size w3).alloc (Nat.le_refl _) (.cells #[Nd 101 p3] 73)) HX3.out.lt)
           have hn5 : Blk w5 w.heap.size 24 _ := (hgrow5.block _ (by simp; omega) (fun h => by have := (HOWN.out.lt _ h.symm).1; omega)).trans (HBN.out.later hbC HBN.out.lt)
           have hd5 : Bd w5 (w.heap.size + 1) := by
             have h1 := HBD.out.later hbC
             obtain ⟨aa, cc, hc⟩ := h1.cell
             exact ⟨Nat.lt_of_lt_of_le h1.lt hgrow5.size, aa, cc, (World.cell?_of_block (hgrow5.block (w.heap.size + 1) h1.lt (fun h => by have := (HOWN.out.lt (w.heap.size + 1) h.symm).1; omega))).trans hc⟩
           have z1 := hx5.cell 4 _ rfl
           have zf := hx5.frozen 4
           have HX5 := Lib.hid hx5
           have HN5 := Lib.hid hn5
           have HD5 := Lib.hid hd5
           have HO5 := Lib.hid hown5
           have hsz5 : w.heap.size + 3 ≤ w5.heap.size := by have := hgrow5.size; simp at this; omega
           clear hown5 hgrow5 hat5 hbC hx5 hn5 hd5))
      all_goals
        go_wp2_with fail
        go_roundw
        case rel => exact ⟨j + 1, l2 ++ [⟨n.kids[j], wr.heap.size, w3.heap.size, p3⟩], .slice (some ⟨gg, 0, none⟩) (j + 1) cap', by omega, by go_num, HN5.out.other _ _ _ (by omega), HD5.out.set (by omega), HX5.out.set 4 _, by rw [List.map_append]; exact ownsRow_setCell_below HO5.out (by first | (simp; done) | (simp; omega)) _, HB5.out.setCell (by first | (simp; done) | (simp; omega)) _, by simpa using hsz5, HE5.out.set (by omega), by rw [List.map_append, HFST.out, List.take_add_one, HGJ.out]; rfl⟩
        case measure => simp [intOf]; omega
    · have hjl' : ¬ (j : Int) < (n.kids.length : Int) := by omega
      have hjj : j = n.kids.length := by omega
      subst hjj
      have n1 := HBN.out.cell 1 _ rfl
      have nl := HBN.out.lt
      have x5 := HBLK.out.cell 5 _ rfl
      have x5f := HBLK.out.frozen 5
      have x5l := HBLK.out.lt
      go_wp2_with fail
      go_ret
      have hBX := HBLK.out
      have hE3 := HE2.out
      have hO3 := HOWN.out
      exact ⟨_, rfl, HBEL.out, l2, _, 61 + i, 0, _, HTK.out, .inl ⟨HTX.out, rfl⟩, by omega, by simpa using hBX, hO3, hE3, by rw [HFST.out, List.take_length]⟩

set_option maxHeartbeats 4000000 in
set_option maxRecDepth 100000 in
theorem bsep_gen1 (n : N) (v : Value) (w : World) (hn : n.size ≤ 400) (i : Nat) (l : List UInt8) (hl : tokW[i]? = some l) (hkd : n.kind.toList = [100, 101, 99, 108, 97, 114, 101, 32] ++ l) (htx : n.text.toList = [103, 114, 111, 117, 112])
    (hit : ∀ m ∈ n.kids, bareV m = true) (htk : tokOf n = some (61 + i)) (hT : TokTab w) (hk : KidsAt (· < w.heap.size) w v n.kids) (h0 : 0 < w.heap.size) :
    Calls Tryz.prog 18 #[n.val v, .slice none 0 0] w fun e w' => ∃ b, e = .returned (Nd 66 b) ∧ Below w.heap.size w w' ∧ GSep w' w.heap.size n b := by
  obtain ⟨a, cap, rfl, hcap, hel⟩ := hk.shape
  have hlen := N.len_lt n
  have hi25 := tokW_len hl
  have hf : (n.kind.toList == [102, 117, 110, 99]) = false := by rw [hkd, beq_eq_false_iff_ne]; simp
  have hsz : n.kind.size = 8 + l.length := by
    have h1 := congrArg List.length hkd
    rw [ByteArray.toList_eq] at h1
    simp at h1
    omega
  have hlp : 0 < l.length := by
    have := tokW_some l (List.mem_of_getElem? hl)
    cases l with
    | nil => simp at this
    | cons => simp
  have hl1000 : l.length ≤ 1000 := by
    have hall : tokW.all (fun l => decide (l.length ≤ 1000)) = true := by decide
    simpa using List.all_eq_true.1 hall _ (List.mem_of_getElem? hl)
  have h8 : (8 : Int) < (n.kind.size : Int) := by omega
  have h8' : 8 ≤ n.kind.size := by omega
  have hbig : (n.kind.size : Int) ≤ 2000 := by omega
  have htx1 : n.text.toList.isEmpty = false := by rw [htx]; rfl
  have htx2 : (n.text.toList == []) = false := by rw [htx]; rfl
  have HTX := Lib.hid htx
  have HL := Lib.hid hl
  have HKD := Lib.hid hkd
  have HTK := Lib.hid htk
  have HT := Lib.hid hT
  have HEL := Lib.hid hel
  have HK := Lib.hid hk
  have HIT := Lib.hid hit
  have HSZ := Lib.hid hsz
  have BN0 : Hid (Blk ((w.alloc (Obj.cells #[Value.string n.kind, Value.string n.text, Value.slice a n.kids.length cap] 24)).alloc (Obj.cells #[Value.slice none 0 0] 48)) w.heap.size 24 #[Value.string n.kind, Value.string n.text, Value.slice a n.kids.length cap]) := Lib.hid ((Blk.new w _ _).later ((Below.refl (w.heap.size + 1) _).alloc (by simp) _) (by omega))
  have bB0 : Blk ((w.alloc (Obj.cells #[Value.string n.kind, Value.string n.text, Value.slice a n.kids.length cap] 24)).alloc (Obj.cells #[Value.slice none 0 0] 48)) (w.heap.size + 1) 48 #[Value.slice none 0 0] := by simpa using Blk.new (w.alloc (Obj.cells #[Value.string n.kind, Value.string n.text, Value.slice a n.kids.length cap] 24)) #[Value.slice none 0 0] 48
  have HD0 : Hid (Bd ((w.alloc (Obj.cells #[Value.string n.kind, Value.string n.text, Value.slice a n.kids.length cap] 24)).alloc (Obj.cells #[Value.slice none 0 0] 48)) (w.heap.size + 1)) := Lib.hid ⟨bB0.lt, none, 0, bB0.cell 0 _ rfl⟩
  clear bB0 hk hel htx hl hkd htk hT hit hsz
  unfold N.val
  go_enter Tryz.func18, Tryz.ntmps18
  go_wp2_with fail
  refine (next_any _ _ HD0.out).mono ?_
  rintro e0 w0 ⟨rfl, hw0⟩
  subst hw0
  go_wp2_with fail
  have hsl : (n.kind.extract 8 n.kind.size).toList = l := by
    have h1 := HKD.out
    rw [ByteArray.toList_eq] at h1 ⊢
    have h2 := HSZ.out
    have h3 : n.kind.data.toList.length = 8 + l.length := by rw [h1]; simp; omega
    rw [ByteArray.data_extract, Array.toList_extract, h1]
    simp [List.extract_eq_take_drop]
    rw [h2]
    simp
  have HSL : Hid (tokW[i]? = some (n.kind.extract 8 n.kind.size).toList) := Lib.hid (by rw [hsl]; exact HL.out)
  have HW3 := Lib.hid ((((Below.refl w.heap.size w).alloc (Nat.le_refl _) (Obj.cells #[Value.string n.kind, Value.string n.text, Value.slice a n.kids.length cap] 24)).alloc (by simp) (Obj.cells #[Value.slice none 0 0] 48)).alloc (by simp; omega) (Obj.cells #[Value.pointer none, Value.int .i64 1, Value.int .i64 0, Value.int .i64 0, Value.slice none 0 0, Value.int .i64 0] 70))
  refine (word_any i _ _ HSL.out (HT.out.later h0 HW3.out)).mono ?_
  rintro e1 w1 ⟨rfl, hw1⟩
  subst hw1
  clear hsl
  go_wp2_with fail
  refine (next_any _ _ (HD0.out.later ((Below.refl _ _).alloc (Nat.le_refl _) (Obj.cells #[Value.pointer none, Value.int .i64 1, Value.int .i64 (61 + (i : Int)), Value.int .i64 0, Value.slice none 0 0, Value.int .i64 0] 70)))).mono ?_
  rintro e2 w2 ⟨rfl, hw2⟩
  subst hw2
  go_wp2_with fail
  have HW4 := Lib.hid ((((Below.refl w.heap.size w).alloc (Nat.le_refl _) (Obj.cells #[Value.string n.kind, Value.string n.text, Value.slice a n.kids.length cap] 24)).alloc (by simp) (Obj.cells #[Value.slice none 0 0] 48)).alloc (by simp; omega) (Obj.cells #[Value.pointer none, Value.int .i64 1, Value.int .i64 (61 + (i : Int)), Value.int .i64 1, Value.slice none 0 0, Value.int .i64 0] 70))
  have BN4 := Lib.hid (BN0.out.later ((Below.refl (w.heap.size + 2) _).alloc (by simp) (Obj.cells #[Value.pointer none, Value.int .i64 1, Value.int .i64 (61 + (i : Int)), Value.int .i64 1, Value.slice none 0 0, Value.int .i64 0] 70)) (by omega))
  have HD4 := Lib.hid (HD0.out.later ((Below.refl _ _).alloc (Nat.le_refl _) (Obj.cells #[Value.pointer none, Value.int .i64 1, Value.int .i64 (61 + (i : Int)), Value.int .i64 1, Value.slice none 0 0, Value.int .i64 0] 70)))
  have BX4 := Lib.hid (show Blk (((w.alloc (Obj.cells #[Value.string n.kind, Value.string n.text, Value.slice a n.kids.length cap] 24)).alloc (Obj.cells #[Value.slice none 0 0] 48)).alloc (Obj.cells #[Value.pointer none, Value.int .i64 1, Value.int .i64 (61 + (i : Int)), Value.int .i64 1, Value.slice none 0 0, Value.int .i64 0] 70)) (w.heap.size + 2) 70 #[Value.pointer none, Value.int .i64 1, Value.int .i64 (61 + (i : Int)), Value.int .i64 1, Value.slice none 0 0, Value.int .i64 0] from by simpa using Blk.new ((w.alloc (Obj.cells #[Value.string n.kind, Value.string n.text, Value.slice a n.kids.length cap] 24)).alloc (Obj.cells #[Value.slice none 0 0] 48)) #[Value.pointer none, Value.int .i64 1, Value.int .i64 (61 + (i : Int)), Value.int .i64 1, Value.slice none 0 0, Value.int .i64 0] 70)
  obtain ⟨i0, hi0, hz0, hz1, hz2⟩ := info_parts infoSpec
  have HI := Lib.hid (And.intro hi0 (And.intro hz0 (And.intro hz1 hz2)))
  clear hi0 hz0 hz1 hz2
  have hl400 : n.kids.length ≤ 400 := by omega
  go_loopw [84] (fun vi wr => ∃ (j : Nat) (l : List Sp) (vv : Value), j ≤ n.kids.length ∧ vi = .int .i64 j ∧ Blk wr w.heap.size 24 #[Value.string n.kind, Value.string n.text, Value.slice a n.kids.length cap] ∧ Bd wr (w.heap.size + 1) ∧ Blk wr (w.heap.size + 1 + 1) 70 #[Value.pointer none, Value.int .i64 1, Value.int .i64 (61 + (i : Int)), Value.int .i64 1, vv, Value.int .i64 0] ∧ wr.ownsRow (w.heap.size + 3) 73 1 vv j (l.map Sp.v) ∧ Below w.heap.size w wr ∧ w.heap.size + 3 ≤ wr.heap.size ∧ SpIn wr (w.heap.size + 3) vv wr.heap.size l ∧ l.map Sp.n = n.kids.take j)
    (fun vi _ => n.kids.length - (intOf vi).toNat)
  case atStart =>
    exact ⟨0, [], .slice none 0 0, Nat.zero_le _, rfl, BN4.out, HD4.out, BX4.out, World.ownsRow_nil _ _ _ _, HW4.out, by simp, SpIn.nil _ _ _ _, rfl⟩
  case round =>
    obtain ⟨j, l2, vv, hj, rfl, hbn, hbd, hblk, hown, hbel, hsr, hE2, hfst⟩ := hrel
    have HBN := Lib.hid hbn
    have HBD := Lib.hid hbd
    have HBLK := Lib.hid hblk
    have HOWN := Lib.hid hown
    have HBEL := Lib.hid hbel
    have HE2 := Lib.hid hE2
    have HFST := Lib.hid hfst
    clear hfst
    clear hbn hbd hblk hown hbel hE2
    by_cases hjl : j < n.kids.length
    · have hjl' : (j : Int) < (n.kids.length : Int) := by omega
      obtain ⟨b, o, V, hae, hb, c0, c1, c2, hV⟩ := HEL.out j n.kids[j] (List.getElem?_eq_getElem hjl)
      subst hae
      have c0' := (HBEL.out.cell (p := ⟨b, o + j * 3, none⟩) hb).trans c0
      have c1' := (HBEL.out.cell (p := ⟨b, o + j * 3 + 1, none⟩) hb).trans c1
      have c2' := (HBEL.out.cell (p := ⟨b, o + j * 3 + 2, none⟩) hb).trans c2
      obtain ⟨a2, cap2, rfl, _, _⟩ := hV.shape
      have HV := Lib.hid (hV.later HBEL.out)
      have hgj : n.kids[j]? = some n.kids[j] := List.getElem?_eq_getElem hjl
      have hjs : n.kids[j].size ≤ 400 := by have := N.size_kid (m := n) hgj; omega
      have HGJ := Lib.hid hgj
      have HIJ := Lib.hid (HIT.out n.kids[j] (List.getElem_mem hjl))
      clear hV hgj c0 c1 c2
      have y1 := HBLK.out.cell 4 _ rfl
      have yf := HBLK.out.frozen 4
      have hltx := HBLK.out.lt
      go_wp2_with fail
      go_region_law (first
        | (refine step_call (by rfl) 39 _ _ (by rfl) #[Pt (w.heap.size + 1), n.kids[j].val (.slice a2 n.kids[j].kids.length cap2)] (by first | (simp [Act.eval, N.val]; done) | (simp [Act.eval, Act.put, N.val]; done) | rfl) (enters_of Tryz.func39 (by kernel_rfl) rfl) (item_sep n.kids[j] (.slice a2 n.kids[j].kids.length cap2) (w.heap.size + 1) _ hjs HIJ.out (HV.out.later (((Below.refl _ _).alloc (Nat.le_refl _) _).drew)) (HBD.out.later (((Below.refl _ _).alloc (Nat.le_refl _) _).drew))) ?_
           rintro e w3 ⟨p3, rfl, hb3, hr3⟩
           refine ⟨_, rfl, ?_⟩
           have hbA := (((Below.refl wr.heap.size wr).alloc (Nat.le_refl _) (Obj.cells #[Value.string n.kids[j].kind, Value.string n.kids[j].text, Value.slice a2 n.kids[j].kids.length cap2] 24)).drew).trans (hb3.mono (by simp))
           have hs3 : wr.heap.size ≤ w3.heap.size := hbA.size
           have hx3 := HBLK.out.later hbA hltx
           have z1 := hx3.cell 4 _ rfl
           have zf := hx3.frozen 4
           have lt3 := hx3.lt
           have HOWN3 := Lib.hid (owns_kept HOWN.out hbA)
           have HR3 := Lib.hid hr3
           have HBA := Lib.hid hbA
           have HX3 := Lib.hid hx3
           clear hb3 hr3 hbA hx3)
        | (refine step_append_lies _ (by rfl) (.tmp 92) (.tmp 96) 68 (by rfl) (w.heap.size + 3) 73 i0 .nilIface 1 16 underSpecs HI.out.1 HI.out.2.1 HI.out.2.2.1 HI.out.2.2.2 (by rfl) (by decide) vv j (l2.map Sp.v) (by first | (simp [Act.eval]; done) | rfl) (HOWN3.out.alloc _) ⟨w3.heap.size, 0, none⟩ 1 1 [Nd 101 p3] (by first | (simp [Act.eval]; done) | rfl) (by rfl) (World.news_of_block (heap_alloc_new _ _)) (by simp [Value.oneCell']) (by decide) (by unfold maxLen; omega) (by omega) (by simp; omega) (w3.heap.size + 1) (by simp) ?_
           intro gg cap' w5 hown5 hgrow5 hat5 hlt5
           have hbC := HBA.out.alloc hs3 (.cells #[Nd 101 p3] 73)
           have HE5 := Lib.hid (HE2.out.snoc (n := j + 1) (cap := cap') hsr (fun k hk => (HOWN.out.lt k hk).2) hbC ((Below.refl w3.heap.size w3).alloc (Nat.le_refl _) (.cells #[Nd 101 p3] 73)) (by simp [World.drew]) HR3.out hgrow5 (hat5.imp id (fun h => by simp; omega)))
           have HB5 := Lib.hid ((HBEL.out.trans (hbC.mono HBEL.out.size)).grown hgrow5 (by simp; omega) (fun k hk => by have := (HOWN.out.lt k hk).1; omega))
           have hx5 : Blk w5 (w.heap.size + 1 + 1) 70 #[Value.pointer none, Value.int .i64 1, Value.int .i64 (61 + (i : Int)), Value.int .i64 1, vv, Value.int .i64 0] := (hgrow5.block _ (by simp; omega) (fun h => by have := (HOWN.out.lt _ h.symm).1; omega)).trans (HX3.out.later ((Below.refl w3.heap.size w3).alloc (Nat.le_refl _) (.cells #[Nd 101 p3] 73)) HX3.out.lt)
           have hn5 : Blk w5 w.heap.size 24 _ := (hgrow5.block _ (by simp; omega) (fun h => by have := (HOWN.out.lt _ h.symm).1; omega)).trans (HBN.out.later hbC HBN.out.lt)
           have hd5 : Bd w5 (w.heap.size + 1) := by
             have h1 := HBD.out.later hbC
             obtain ⟨aa, cc, hc⟩ := h1.cell
             exact ⟨Nat.lt_of_lt_of_le h1.lt hgrow5.size, aa, cc, (World.cell?_of_block (hgrow5.block (w.heap.size + 1) h1.lt (fun h => by have := (HOWN.out.lt (w.heap.size + 1) h.symm).1; omega))).trans hc⟩
           have z1 := hx5.cell 4 _ rfl
           have zf := hx5.frozen 4
           have HX5 := Lib.hid hx5
           have HN5 := Lib.hid hn5
           have HD5 := Lib.hid hd5
           have HO5 := Lib.hid hown5
           have hsz5 : w.heap.size + 3 ≤ w5.heap.size := by have := hgrow5.size; simp at this; omega
           clear hown5 hgrow5 hat5 hbC hx5 hn5 hd5))
      all_goals
        go_wp2_with fail
        go_roundw
        case rel => exact ⟨j + 1, l2 ++ [⟨n.kids[j], wr.heap.size, w3.heap.size, p3⟩], .slice (some ⟨gg, 0, none⟩) (j + 1) cap', by omega, by go_num, HN5.out.other _ _ _ (by omega), HD5.out.set (by omega), HX5.out.set 4 _, by rw [List.map_append]; exact ownsRow_setCell_below HO5.out (by first | (simp; done) | (simp; omega)) _, HB5.out.setCell (by first | (simp; done) | (simp; omega)) _, by simpa using hsz5, HE5.out.set (by omega), by rw [List.map_append, HFST.out, List.take_add_one, HGJ.out]; rfl⟩
        case measure => simp [intOf]; omega
    · have hjl' : ¬ (j : Int) < (n.kids.length : Int) := by omega
      have hjj : j = n.kids.length := by omega
      subst hjj
      have n1 := HBN.out.cell 1 _ rfl
      have nl := HBN.out.lt
      have x5 := HBLK.out.cell 5 _ rfl
      have x5f := HBLK.out.frozen 5
      have x5l := HBLK.out.lt
      go_wp2_with fail
      refine (next_any _ _ HBD.out).mono ?_
      rintro e9 w9 ⟨rfl, hw9⟩
      subst w9
      go_wp2_with fail
      go_ret
      have hBX := HBLK.out.set 5 (Value.int .i64 1)
      have hE3 := HE2.out.set (X := w.heap.size + 1 + 1) (i := 5) (u := Value.int .i64 1) (by omega)
      have hO3 := ownsRow_setCell_below (a := ⟨w.heap.size + 1 + 1, 5, none⟩) HOWN.out (by show w.heap.size + 1 + 1 < w.heap.size + 3; omega) (Value.int .i64 1)
      exact ⟨_, rfl, HBEL.out.setCell (by first | (simp; done) | (simp; omega)) _, l2, _, 61 + i, 1, _, HTK.out, .inr ⟨HTX.out, rfl⟩, by omega, by simpa using hBX, hO3, hE3, by rw [HFST.out, List.take_length]⟩
end Go.Proofs.YtoijkbkcfbbmfaaGreatDoor

