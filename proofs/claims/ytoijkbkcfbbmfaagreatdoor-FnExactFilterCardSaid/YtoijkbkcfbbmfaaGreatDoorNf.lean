/- What is proved here: FilterDecl in place, and impl.Filter. Conditions: each theorem names its own. -/
import Derived.Test.YtoijkbkcfbbmfaaGreatDoorMz
import Derived.Test.YtoijkbkcfbbmfaaGreatDoorMc
import Derived.Test.YtoijkbkcfbbmfaaGreatDoorMx
import Derived.Test.YtoijkbkcfbbmfaaGreatDoorMf
import Derived.Test.YtoijkbkcfbbmfaaGreatDoorMe
import Derived.Test.YtoijkbkcfbbmfaaGreatDoorMy
set_option linter.all false
set_option linter.unusedVariables false
set_option linter.unusedSimpArgs false
/- What is proved here: texts of a list where they lie; a filter's answers; filterIdentList keeps, in place, the names that a filter takes. -/
namespace Go.Proofs.YtoijkbkcfbbmfaaGreatDoor
open Go.RowKit Go.Shelf
set_option linter.unusedVariables false
set_option linter.unusedSimpArgs false
attribute [local go_sem ↓] Go.wp_at_zero Go.wp_at_succ

/-- Texts of a list, where they lie. -/
def StrsAt (B : Nat) (w : World) (v : Value) (L : List ByteArray) : Prop := ∃ a cap, v = .slice a L.length cap ∧ L.length ≤ cap ∧ ∀ (i : Nat) (s : ByteArray), L[i]? = some s → ∃ b o, a = some ⟨b, o, none⟩ ∧ b < B ∧ w.cell? ⟨b, o + i, none⟩ = some (.string s)
theorem StrsAt.below {B B' : Nat} {w w' : World} {v : Value} {L : List ByteArray} (h : StrsAt B w v L) (hb : Below B' w w') (hB : B ≤ B') : StrsAt B w' v L := by
  obtain ⟨a, cap, h1, h2, h3⟩ := h
  refine ⟨a, cap, h1, h2, fun i s hi => ?_⟩
  obtain ⟨b, o, e, hlt, hc⟩ := h3 i s hi
  exact ⟨b, o, e, hlt, (hb.cell (p := ⟨b, o + i, none⟩) (Nat.lt_of_lt_of_le hlt hB)).trans hc⟩
/-- A function value that answers of a text as p does, in every later world. -/
def PredS (B : Nat) (w0 : World) (fv : Value) (p : ByteArray → Bool) : Prop := ∃ g caps, fv = .func (.func g) #[] caps ∧ (∀ args w, (callFunc g args).run Tryz.prog w = .ok (.enter g args) w) ∧
  ∀ s w, Below B w0 w → Calls Tryz.prog g (#[.string s] ++ caps) w fun e w' => e = .returned (.bool (p s)) ∧ Below w.heap.size w w'
/-- The names that a filter takes of the first so many. -/
def kept (p : ByteArray → Bool) (ks : List N) (i : Nat) : List N := (ks.take i).filter fun m => p m.text
theorem kept_succ (p : ByteArray → Bool) {ks : List N} {i : Nat} {m : N} (h : ks[i]? = some m) : kept p ks (i + 1) = kept p ks i ++ (if p m.text then [m] else []) := by
  unfold kept
  rw [List.take_add_one, h]
  cases hp : p m.text <;> simp [hp]
theorem kept_le (p : ByteArray → Bool) (ks : List N) (i : Nat) : (kept p ks i).length ≤ i := by
  unfold kept
  have h1 := List.length_filter_le (fun m : N => p m.text) (ks.take i)
  rw [List.length_take] at h1
  omega
/-- How the row lies in the midst of the filtering. -/
def RowMid (p : ByteArray → Bool) (ks : List N) (r : Value) (L : List Value) (lo hi : Nat) (w wr : World) (i : Nat) : Prop := ∀ g n cap, r = .slice (some ⟨g, 0, none⟩) n cap →
  ∃ cur : Array Value, wr.heap[g]? = some (.cells cur 55 (0, 0)) ∧ cur.size = cap ∧ (∀ (t : Nat) (m : N), (kept p ks i)[t]? = some m → ∃ s : Nat, cur[t]? = some (Pt s) ∧ Rep (At (Ex r lo hi) w) m (Nd 55 s)) ∧ ∀ t : Nat, i ≤ t → t < n → cur[t]? = L[t]?
theorem RowMid.later {p : ByteArray → Bool} {ks : List N} {r : Value} {L : List Value} {lo hi i B : Nat} {w wr w' : World} (h : RowMid p ks r L lo hi w wr i) (hb : Below wr.heap.size wr w') : RowMid p ks r L lo hi w w' i := by
  intro g n cap hr
  obtain ⟨cur, h1, h2⟩ := h g n cap hr
  exact ⟨cur, (hb.block g (Array.getElem?_eq_some_iff.1 h1).1).trans h1, h2⟩
theorem grown_below {w w1 w2 : World} {row : Option Nat} (h : w.grownBy w1 row) (hb : Below w1.heap.size w1 w2) : w.grownBy w2 row :=
  ⟨hb.os.trans h.os, hb.tape.trans h.tape, hb.output.trans h.output, Nat.le_trans h.size hb.size, fun k hk hne => (hb.block k (Nat.lt_of_lt_of_le hk h.size)).trans (h.block k hk hne)⟩
theorem grown_set {w w1 : World} {g i : Nat} {u : Value} (h : w.grownBy w1 (some g)) : w.grownBy (w1.setCell ⟨g, i, none⟩ u) (some g) :=
  ⟨h.os, h.tape, h.output, by simpa using h.size, fun k hk hne => (heap_setCell_other _ _ _ _ (by simpa using hne)).trans (h.block k hk hne)⟩
theorem grown_refl (w : World) (row : Option Nat) : w.grownBy w row := ⟨rfl, rfl, rfl, Nat.le_refl _, fun _ _ _ => rfl⟩

set_option maxHeartbeats 4000000 in
set_option maxRecDepth 100000 in
theorem filt_idents {B lo hi : Nat} {p : ByteArray → Bool} {w0 : World} (fv r : Value) (ks : List N) (L : List Value) (w : World) (hp : PredS B w0 fv p) (hb0 : Below B w0 w) (hBl : B ≤ lo) (hN : NS lo hi w ks r L) (hl : ks.length ≤ 1000) (hhi : hi ≤ w.heap.size) :
    Calls Tryz.prog 72 #[r, fv] w fun e w' => ∃ r' L', e = .returned r' ∧ NS lo hi w' (ks.filter fun m => p m.text) r' L' ∧ Below B w0 w' ∧ w.grownBy w' r.ownBlock := by
  obtain ⟨ho, hE, hg⟩ := hN
  obtain ⟨f, caps, rfl, hcf, hpf⟩ := hp
  obtain ⟨a, cap, rfl, hcap⟩ := owns_shape ho
  have hLl : L.length = ks.length := by simpa using ho.1
  have ha : a = none ∧ ks.length = 0 ∧ cap = 0 ∨ ∃ g, a = some ⟨g, 0, none⟩ := by
    rcases ho.2 with ⟨h, h0⟩ | ⟨g, c, _, h, _⟩
    · simp only [Value.slice.injEq] at h; exact .inl ⟨h.1, h0, h.2.2⟩
    · simp only [Value.slice.injEq] at h; exact .inr ⟨g, h.1⟩
  have hr0 : RowMid p ks (.slice a ks.length cap) L lo hi w w 0 := by
    intro g n cap' hr
    simp only [Value.slice.injEq] at hr
    obtain ⟨rfl, rfl, rfl⟩ := hr
    rcases ho.2 with ⟨h, _⟩ | ⟨g', c, cur, h, _, hgg, _, _, hsz, htk⟩
    · simp at h
    · simp only [Value.slice.injEq, Option.some.injEq, Addr.mk.injEq, and_true, true_and] at h
      obtain ⟨rfl, rfl⟩ := h
      refine ⟨cur, hgg, by simpa using hsz, fun t m ht => by simp [kept] at ht, fun t _ ht => ?_⟩
      rw [← htk, List.getElem?_take, if_pos (by omega)]
      simp
  have HP := Lib.hid hpf
  have HE := Lib.hid hE
  have HO := Lib.hid ho
  have HG := Lib.hid hg
  have HA := Lib.hid ha
  have HB0 := Lib.hid hb0
  have HR0 := Lib.hid hr0
  clear hpf hE ho hg ha hb0 hr0
  go_enter Tryz.func72, Tryz.ntmps72
  go_wp2_with fail
  go_loopw [5, 10] (fun vj vi wr => ∃ (i : Nat), i ≤ ks.length ∧ vi = .int .i64 i ∧ vj = .int .i64 ((kept p ks i).length : Nat) ∧ w.grownBy wr (Value.slice a ks.length cap).ownBlock ∧ Below B w0 wr ∧ RowMid p ks (.slice a ks.length cap) L lo hi w wr i)
    (fun _ vi _ => ks.length - (intOf vi).toNat)
  case atStart => exact ⟨0, Nat.zero_le _, rfl, rfl, grown_refl _ _, HB0.out, HR0.out⟩
  case round =>
    obtain ⟨i, hi', rfl, rfl, hgr, hbel, hrow⟩ := hrel
    have HGR := Lib.hid hgr
    have HBEL := Lib.hid hbel
    have HROW := Lib.hid hrow
    clear hgr hbel hrow
    have hkl := kept_le p ks i
    by_cases hil : i < ks.length
    · obtain ⟨g, rfl⟩ : ∃ g, a = some ⟨g, 0, none⟩ := by
        rcases HA.out with ⟨_, h, _⟩ | h
        · omega
        · exact h
      obtain ⟨cur, hcur, hcs, hpre, hpost⟩ := HROW.out g ks.length cap rfl
      obtain ⟨m, hm⟩ : ∃ m, ks[i]? = some m := ⟨_, List.getElem?_eq_getElem hil⟩
      obtain ⟨u, hu⟩ : ∃ u, L[i]? = some u := ⟨_, List.getElem?_eq_getElem (by omega)⟩
      obtain ⟨q, ⟨s, rfl, rfl⟩, hrep⟩ := HE.out i m u hm hu
      have hgw : g < w.heap.size := (HO.out.lt g rfl).2
      have c0 : wr.cell? ⟨g, i, none⟩ = some (Pt s) := by
        have h1 := hpost i (Nat.le_refl _) hil
        rw [hu] at h1
        rw [World.cell?]
        simp [hcur, h1]
      have hid := hrep.ident_inv.2.2
      have c1 : wr.cell? ⟨s, 1, none⟩ = some (.string m.text) := by
        have h1 := hid.1
        have h2 := HGR.out.block s (by have := h1.1.2; omega) (fun e => h1.2 e.symm)
        exact (World.cell?_of_block (a := ⟨s, 1, none⟩) h2).trans hid.2
      have hBw : B ≤ wr.heap.size := by have h1 := HGR.out.size; have h2 := (HO.out.lt g rfl).1; omega
      have HC := Lib.hid (And.intro hcur (And.intro hcs (And.intro hpre hpost)))
      have HM := Lib.hid (And.intro hm (And.intro hu hrep))
      clear hcur hcs hpre hpost hm hu hrep hid
      have hi1 : (i : Int) < (ks.length : Int) := by omega
      go_wp2_with fail
      refine (HP.out m.text wr HBEL.out).mono ?_
      rintro e w2 ⟨rfl, hb2⟩
      have hcur2 := (hb2.block g (Array.getElem?_eq_some_iff.1 HC.out.1).1).trans HC.out.1
      have HB2 := Lib.hid hb2
      clear hb2
      cases hpm : p m.text with
      | true =>
        have HPM := Lib.hid hpm
        clear hpm
        have hklt : (kept p ks i).length < ks.length := by omega
        have hkc : (kept p ks i).length < cur.size := by have := HC.out.2.1; omega
        have d0 : w2.cell? ⟨g, (kept p ks i).length, none⟩ = some (cur[(kept p ks i).length]'hkc) := by
          rw [World.cell?]
          simp [hcur2]
        have f0 : w2.frozen? ⟨g, (kept p ks i).length, none⟩ = false := by
          rw [World.frozen?]
          simp [hcur2]
        have hk1 : ((kept p ks i).length : Int) < (ks.length : Int) := by omega
        have HCUR2 := Lib.hid hcur2
        clear hcur2
        go_wp2_with fail
        go_roundw
        case rel =>
          have hks := kept_succ p HM.out.1
          rw [HPM.out, if_pos rfl] at hks
          refine ⟨i + 1, by omega, by go_num, by rw [hks, List.length_append]; go_num, grown_set (grown_below HGR.out HB2.out), ?_, ?_⟩
          · exact (HBEL.out.trans (HB2.out.mono hBw)).setCell (by show B ≤ g; have := (HO.out.lt g rfl).1; omega) _
          · intro g' n' cap' hr'
            cases hr'
            refine ⟨cur.set! (kept p ks i).length (Pt s), ?_, by simpa using HC.out.2.1, fun t m' ht => ?_, fun t ht1 ht2 => ?_⟩
            · have := heap_setCell_same w2 g (kept p ks i).length cur 55 (Pt s) HCUR2.out
              simpa using this
            · rw [hks] at ht
              by_cases htk : t < (kept p ks i).length
              · rw [List.getElem?_append_left htk] at ht
                obtain ⟨s', h1, h2⟩ := HC.out.2.2.1 t m' ht
                exact ⟨s', by simpa [Array.getElem?_setIfInBounds, show (kept p ks i).length ≠ t by omega] using h1, h2⟩
              · rw [List.getElem?_append_right (by omega)] at ht
                have ht0 : t = (kept p ks i).length := by
                  have := (List.getElem?_eq_some_iff.1 ht).1
                  simp at this
                  omega
                subst ht0
                simp at ht
                subst ht
                exact ⟨s, by simp [Array.getElem?_setIfInBounds, hkc], HM.out.2.2⟩
            · have h1 := HC.out.2.2.2 t (by omega) ht2
              simpa [Array.getElem?_setIfInBounds, show (kept p ks i).length ≠ t by omega] using h1
        case measure => simp [intOf]; omega
      | false =>
        have HPM := Lib.hid hpm
        clear hpm
        go_wp2_with fail
        go_roundw
        case rel =>
          have hks := kept_succ p HM.out.1
          rw [HPM.out] at hks
          simp only [Bool.false_eq_true, if_false, List.append_nil] at hks
          refine ⟨i + 1, by omega, by go_num, by rw [hks], grown_below HGR.out HB2.out, HBEL.out.trans (HB2.out.mono hBw), ?_⟩
          intro g' n' cap' hr'
          cases hr'
          refine ⟨cur, hcur2, HC.out.2.1, fun t m' ht => ?_, fun t ht1 ht2 => HC.out.2.2.2 t (by omega) ht2⟩
          rw [hks] at ht
          exact HC.out.2.2.1 t m' ht
        case measure => simp [intOf]; omega
    · have e : i = ks.length := by omega
      subst e
      have hkk : kept p ks ks.length = ks.filter fun m => p m.text := by unfold kept; rw [List.take_length]
      rw [hkk] at hkl ⊢
      have HK := Lib.hid hkl
      have hrow2 := HROW.out
      unfold RowMid at hrow2
      rw [hkk] at hrow2
      have HROW2 := Lib.hid hrow2
      have HKK := Lib.hid hkk
      clear hrow2 hkk
      rcases HA.out with ⟨rfl, h0, rfl⟩ | ⟨g, rfl⟩
      · obtain rfl : ks = [] := List.length_eq_zero_iff.1 h0
        go_wp2_with fail
        go_ret
        exact ⟨_, rfl, ⟨[], World.ownsRow_nil _ _ _ _, Elems.nil _ _ _, fun g hg => by cases hg⟩, HBEL.out, HGR.out⟩
      · have hkc : ((ks.filter fun m => p m.text).length : Int) ≤ (cap : Int) := by omega
        go_wp2_with fail
        go_ret
        obtain ⟨cur, hcur, hcs, hpre, _⟩ := HROW2.out g ks.length cap rfl
        have hgl := (HO.out.lt g rfl).1
        refine ⟨_, cur.toList.take (ks.filter fun m => p m.text).length, rfl, ⟨⟨?_, .inr ⟨g, cap, cur, by simp, hgl, hcur, by omega, ?_, by omega, by simp⟩⟩, ?_, ?_⟩, HBEL.out, HGR.out⟩
        · simp; omega
        · rcases HO.out.2 with ⟨h, _⟩ | ⟨_, c, _, h, _, _, _, hm, _⟩
          · simp at h
          · simp only [Value.slice.injEq] at h; rw [h.2.2]; exact hm
        · intro t m u ht hu
          obtain ⟨s, h1, h2⟩ := hpre t m ht
          rw [List.getElem?_take] at hu
          split at hu
          · rw [Array.getElem?_toList, h1] at hu
            cases hu
            refine ⟨_, ⟨s, rfl, rfl⟩, h2.imp fun b o x hx => ?_⟩
            obtain ⟨⟨hx1, hx2⟩, hx3⟩ := hx
            exact ⟨⟨hx1, by simpa [Value.ownBlock] using hx2⟩, (World.cell?_of_block (HGR.out.block b (by have := hx1.2; omega) (fun e => hx2 e.symm))).trans hx3⟩
          · cases hu
        · intro g' hg'
          exact HG.out g' (by simpa [Value.ownBlock] using hg')
end Go.Proofs.YtoijkbkcfbbmfaaGreatDoor

/- What is proved here: filterSpec of a value without values keeps, in place, the names that a filter takes, and tells whether there are any. -/
namespace Go.Proofs.YtoijkbkcfbbmfaaGreatDoor
open Go.RowKit Go.Shelf
set_option linter.unusedVariables false
set_option linter.unusedSimpArgs false
attribute [local go_sem] as_ValueSpecP as_TypeSpecP
attribute [local go_sem ↓] Go.wp_at_zero Go.wp_at_succ

set_option maxRecDepth 100000 in
theorem filt_exprs (fv : Value) (w : World) : Calls Tryz.prog 73 #[.slice none 0 0, fv, .bool false] w fun e w' => e = .returned (.slice none 0 0) ∧ w' = w := by
  go_enter Tryz.func73, Tryz.ntmps73
  go_wp2_with fail
  go_loopw [7, 18] (fun vj vi wr => vj = .int .i64 0 ∧ vi = .int .i64 0 ∧ wr = w) (fun _ _ _ => 0)
  case atStart => exact ⟨rfl, rfl, rfl⟩
  case round =>
    obtain ⟨rfl, rfl, rfl⟩ := hrel
    go_wp2_with fail
    go_ret
    exact ⟨rfl, rfl⟩

/-- A later world, but for the blocks from one to another. -/
def Out (lo hi : Nat) (w w' : World) : Prop := w.heap.size ≤ w'.heap.size ∧ ∀ k, k < w.heap.size → (k < lo ∨ hi ≤ k) → w'.heap[k]? = w.heap[k]?
theorem filtV_eq {p : ByteArray → Bool} {n x y z : N} (h : n.kids = [x, y, z]) : filtV p n = .mk n.kind n.text [.mk x.kind x.text (x.kids.filter fun m => p m.text), y, z] := by unfold filtV; rw [h]
theorem leftV_eq {p : ByteArray → Bool} {n x y z : N} (h : n.kids = [x, y, z]) : leftV p n = x.kids.any fun m => p m.text := by unfold leftV; rw [h]

set_option maxHeartbeats 4000000 in
set_option maxRecDepth 100000 in
theorem filt_spec {B lo hi b : Nat} {p : ByteArray → Bool} {w0 : World} (fv : Value) (n : N) (w : World) (hp : PredS B w0 fv p) (hb0 : Below B w0 w) (hBl : B ≤ lo) (hV : VSep w lo hi n b) (hl : n.size ≤ 400) (hhi : hi ≤ w.heap.size) :
    Calls Tryz.prog 70 #[Nd 101 b, fv, .bool false] w fun e w' => e = .returned (.bool (leftV p n)) ∧ VSep w' lo hi (filtV p n) b ∧ Below B w0 w' ∧ Out lo hi w w' := by
  obtain ⟨x, y, z, vl, vy, L, hx, ⟨k1, k2, k3, k4, k5, k6, k7⟩, ⟨b1, b2⟩, hB, hN, hy⟩ := hV
  have hxs : x.kids.length ≤ 1000 := by have h1 := N.size_kid (m := n) (n := x) (i := 0) (by rw [hx]; rfl); have h2 := N.len_lt x; omega
  obtain ⟨al, capl, rfl, hcapl⟩ := owns_shape hN.1
  have c1 := hB.cell 1 _ rfl
  have HB := Lib.hid hB
  have HN := Lib.hid hN
  have HY := Lib.hid hy
  have HX := Lib.hid hx
  have HP := Lib.hid hp
  have HB0 := Lib.hid hb0
  have hblt := hB.lt
  clear hB hN hy hx hp hb0
  go_enter Tryz.func70, Tryz.ntmps70
  go_wp2_with fail
  refine (filt_idents fv _ x.kids L w HP.out HB0.out hBl HN.out hxs (by omega)).mono ?_
  rintro e w1 ⟨r1, L1, rfl, hN1, hb1, hg1⟩
  have hgb : (Value.slice al x.kids.length capl).ownBlock ≠ some b := fun h => by have := HN.out.2.2 b h; omega
  have hB1 : Blk w1 b 108 _ := (hg1.block b hblt (fun h => hgb h.symm)).trans HB.out
  obtain ⟨al1, capl1, rfl, hcapl1⟩ := owns_shape hN1.1
  have d1 := hB1.cell 1 _ rfl
  have f1 := hB1.frozen 1
  have f3 := hB1.frozen 3
  have d3 := hB1.cell 3 _ rfl
  have n1 := hB1.lt
  have HB1 := Lib.hid hB1
  have HN1 := Lib.hid hN1
  have HG1 := Lib.hid hg1
  have HBE1 := Lib.hid hb1
  clear hB1 hN1 hg1 hb1
  go_wp2_with fail
  refine (filt_exprs fv _).mono ?_
  rintro e w2 ⟨rfl, rfl⟩
  have hany : leftV p n = decide (0 < (x.kids.filter fun m => p m.text).length) := by
    rw [leftV_eq HX.out, Bool.eq_iff_iff]
    simp [List.length_pos_iff]
  have fin : ∀ W, W = ((w1.setCell ⟨b, 1, none⟩ (.slice al1 (x.kids.filter fun m => p m.text).length capl1)).setCell ⟨b, 3, none⟩ (.slice none 0 0)) → VSep W lo hi (filtV p n) b ∧ Below B w0 W ∧ Out lo hi w W := by
    rintro W rfl
    have hsz := HG1.out.size
    have hBf := (HB1.out.set 1 (.slice al1 (x.kids.filter fun m => p m.text).length capl1)).set 3 (.slice none 0 0)
    have hsame : ∀ k, k ≠ b → ((w1.setCell ⟨b, 1, none⟩ (.slice al1 (x.kids.filter fun m => p m.text).length capl1)).setCell ⟨b, 3, none⟩ (.slice none 0 0)).heap[k]? = w1.heap[k]? := fun k hk =>
      (heap_setCell_other _ _ _ _ (by simpa using hk)).trans (heap_setCell_other _ _ _ _ (by simpa using hk))
    refine ⟨?_, (HBE1.out.setCell (by show B ≤ b; omega) _).setCell (by show B ≤ b; omega) _, by simpa using hsz, fun k hk1 hk2 => ?_⟩
    · rw [filtV_eq HX.out]
      refine ⟨_, y, z, _, vy, L1, rfl, ⟨k1, k2, k3, k4, k5, k6, k7⟩, ⟨b1, b2⟩, by simpa using hBf, HN1.out.step (fun k q1 q2 => hsame k (by omega)) (Nat.le_refl _) (Nat.le_refl _), HY.out.imp id fun hh => ⟨hh.1, hh.2.step fun k hk => ?_⟩⟩
      have := hk.1
      have := hk.2
      refine ⟨hk, (hsame k (by omega)).trans (HG1.out.block k (by omega) fun e => ?_)⟩
      have := HN.out.2.2 k e.symm
      omega
    · refine (hsame k (by omega)).trans (HG1.out.block k hk1 fun e => ?_)
      have h1 := HN.out.2.2 k e.symm
      have h2 := (HN.out.1.lt k e.symm).1
      omega
  have FIN := Lib.hid fin
  clear fin
  have HANY := Lib.hid hany
  clear hany
  by_cases hk : 0 < (x.kids.filter fun m => p m.text).length
  · have hk' : (0 : Int) < ((x.kids.filter fun m => p m.text).length : Int) := by omega
    go_wp2_with fail
    go_ret
    exact ⟨by rw [HANY.out]; simp [hk], FIN.out _ rfl⟩
  · have hk' : ¬ (0 : Int) < ((x.kids.filter fun m => p m.text).length : Int) := by omega
    go_wp2_with fail
    go_ret
    exact ⟨by rw [HANY.out]; simp [hk], FIN.out _ rfl⟩
end Go.Proofs.YtoijkbkcfbbmfaaGreatDoor

/- What is proved here: filterSpecList and filterDecl keep, in place, the values that have names left. -/
namespace Go.Proofs.YtoijkbkcfbbmfaaGreatDoor
open Go.RowKit Go.Shelf
set_option linter.unusedVariables false
set_option linter.unusedSimpArgs false
attribute [local go_sem] as_GenDeclP as_FuncDeclP
attribute [local go_sem ↓] Go.wp_at_zero Go.wp_at_succ

/-- A value with the names that are left. -/
def Sp.filt (p : ByteArray → Bool) (s : Sp) : Sp := { s with n := filtV p s.n }
/-- The values that are left of the first so many. -/
def keptS (p : ByteArray → Bool) (l : List Sp) (i : Nat) : List Sp := ((l.take i).filter fun s => leftV p s.n).map (Sp.filt p)
theorem keptS_succ (p : ByteArray → Bool) {l : List Sp} {i : Nat} {s : Sp} (h : l[i]? = some s) : keptS p l (i + 1) = keptS p l i ++ (if leftV p s.n then [s.filt p] else []) := by
  unfold keptS
  rw [List.take_add_one, h]
  cases hp : leftV p s.n <;> simp [hp]
theorem keptS_le (p : ByteArray → Bool) (l : List Sp) (i : Nat) : (keptS p l i).length ≤ i := by
  unfold keptS
  have h1 := List.length_filter_le (fun s : Sp => leftV p s.n) (l.take i)
  rw [List.length_take] at h1
  rw [List.length_map]
  omega
theorem keptS_mem {p : ByteArray → Bool} {l : List Sp} {i : Nat} {t : Sp} (h : t ∈ keptS p l i) : ∃ j s, j < i ∧ l[j]? = some s ∧ t = s.filt p := by
  unfold keptS at h
  obtain ⟨s, hs, rfl⟩ := List.mem_map.1 h
  have hs2 := (List.mem_filter.1 hs).1
  obtain ⟨j, hj, e⟩ := List.getElem_of_mem hs2
  rw [List.length_take] at hj
  rw [List.getElem_take] at e
  exact ⟨j, s, by omega, by rw [List.getElem?_eq_getElem (by omega), e], rfl⟩
/-- How the row of values lies in the midst of the filtering. -/
def SpMid (p : ByteArray → Bool) (l : List Sp) (r : Value) (wr : World) (i : Nat) : Prop :=
  (∀ g n cap, r = .slice (some ⟨g, 0, none⟩) n cap → ∃ cur : Array Value, wr.heap[g]? = some (.cells cur 73 (0, 0)) ∧ cur.size = cap ∧ (∀ (t : Nat) (s : Sp), (keptS p l i)[t]? = some s → cur[t]? = some s.v) ∧ ∀ (t : Nat) (s : Sp), i ≤ t → l[t]? = some s → cur[t]? = some s.v) ∧
  (∀ s ∈ keptS p l i, VSep wr s.lo s.hi s.n s.b) ∧ ∀ (t : Nat) (s : Sp), i ≤ t → l[t]? = some s → VSep wr s.lo s.hi s.n s.b
theorem pair_at {l : List Sp} (h : l.Pairwise fun s t => s.hi ≤ t.lo) {i j : Nat} {s t : Sp} (hij : i < j) (hs : l[i]? = some s) (ht : l[j]? = some t) : s.hi ≤ t.lo := by
  obtain ⟨h1, rfl⟩ := List.getElem?_eq_some_iff.1 hs
  obtain ⟨h2, rfl⟩ := List.getElem?_eq_some_iff.1 ht
  exact List.pairwise_iff_getElem.1 h i j h1 h2 hij

set_option maxHeartbeats 4000000 in
set_option maxRecDepth 100000 in
theorem filt_specs {B lo : Nat} {p : ByteArray → Bool} {w0 : World} (fv r : Value) (l : List Sp) (w : World) (hp : PredS B w0 fv p) (hb0 : Below B w0 w) (hBl : B ≤ lo) (ho : w.ownsRow lo 73 1 r l.length (l.map Sp.v)) (hS : SpIn w lo r w.heap.size l) (hl : l.length ≤ 1000) (hsz : ∀ s ∈ l, s.n.size ≤ 400) :
    Calls Tryz.prog 59 #[r, fv, .bool false] w fun e w' => ∃ r', e = .returned r' ∧ w'.ownsRow lo 73 1 r' (keptS p l l.length).length ((keptS p l l.length).map Sp.v) ∧ SpIn w' lo r' w'.heap.size (keptS p l l.length) ∧ Below B w0 w' ∧ Out lo w.heap.size w w' := by
  obtain ⟨a, cap, rfl, hcap⟩ := owns_shape ho
  have ha : a = none ∧ l.length = 0 ∧ cap = 0 ∨ ∃ g, a = some ⟨g, 0, none⟩ := by
    rcases ho.2 with ⟨h, h0⟩ | ⟨g, c, _, h, _⟩
    · simp only [Value.slice.injEq] at h; exact .inl ⟨h.1, h0, h.2.2⟩
    · simp only [Value.slice.injEq] at h; exact .inr ⟨g, h.1⟩
  have hr0 : SpMid p l (.slice a l.length cap) w 0 := by
    refine ⟨fun g n cap' hr => ?_, fun s hs => by simp [keptS] at hs, fun t s _ ht => (hS.1 s (List.mem_of_getElem? ht)).2.2.2⟩
    simp only [Value.slice.injEq] at hr
    obtain ⟨rfl, rfl, rfl⟩ := hr
    rcases ho.2 with ⟨h, _⟩ | ⟨g', c, cur, h, _, hgg, _, _, hsz, htk⟩
    · simp at h
    · simp only [Value.slice.injEq, Option.some.injEq, Addr.mk.injEq, and_true, true_and] at h
      obtain ⟨rfl, rfl⟩ := h
      refine ⟨cur, hgg, by simpa using hsz, fun t m ht => by simp [keptS] at ht, fun t s _ ht => ?_⟩
      have htl := (List.getElem?_eq_some_iff.1 ht).1
      have h1 : (l.map Sp.v)[t]? = some s.v := by rw [List.getElem?_map, ht]; rfl
      rw [← htk, List.getElem?_take, if_pos (by omega)] at h1
      simpa using h1
  have HP := Lib.hid hp
  have HS := Lib.hid hS
  have HO := Lib.hid ho
  have HA := Lib.hid ha
  have HB0 := Lib.hid hb0
  have HR0 := Lib.hid hr0
  have HSZ := Lib.hid hsz
  clear hp hS ho ha hb0 hr0 hsz
  go_enter Tryz.func59, Tryz.ntmps59
  go_wp2_with fail
  go_loopw [7, 12] (fun vj vi wr => ∃ (i : Nat), i ≤ l.length ∧ vi = .int .i64 i ∧ vj = .int .i64 ((keptS p l i).length : Nat) ∧ Out lo w.heap.size w wr ∧ Below B w0 wr ∧ SpMid p l (.slice a l.length cap) wr i)
    (fun _ vi _ => l.length - (intOf vi).toNat)
  case atStart => exact ⟨0, Nat.zero_le _, rfl, rfl, ⟨Nat.le_refl _, fun _ _ _ => rfl⟩, HB0.out, HR0.out⟩
  case round =>
    obtain ⟨i, hi', rfl, rfl, hout, hbel, hrow, hkp, hrs⟩ := hrel
    have HOUT := Lib.hid hout
    have HBEL := Lib.hid hbel
    have HKP := Lib.hid hkp
    have HRS := Lib.hid hrs
    have hszw := hout.1
    clear hout hbel hkp hrs
    have hkl := keptS_le p l i
    by_cases hil : i < l.length
    · obtain ⟨g, rfl⟩ : ∃ g, a = some ⟨g, 0, none⟩ := by
        rcases HA.out with ⟨_, h, _⟩ | h
        · omega
        · exact h
      obtain ⟨cur, hcur, hcs, hpre, hpost⟩ := hrow g l.length cap rfl
      clear hrow
      obtain ⟨s, hs⟩ : ∃ s, l[i]? = some s := ⟨_, List.getElem?_eq_getElem hil⟩
      have hgw : lo ≤ g ∧ g < w.heap.size := HO.out.lt g rfl
      have hgi : ∀ t ∈ l, g < t.lo ∨ t.hi ≤ g := fun t ht => (HS.out.1 t ht).2.2.1 g rfl
      have c0 : wr.cell? ⟨g, i, none⟩ = some (Nd 101 s.b) := by
        rw [World.cell?]
        have h1 := hpost i s (Nat.le_refl _) hs
        simp [hcur, h1, Sp.v]
      have hsl := HS.out.1 s (List.mem_of_getElem? hs)
      have hcall := filt_spec fv s.n wr HP.out HBEL.out (by have := hsl.1; omega) (HRS.out i s (Nat.le_refl _) hs) (HSZ.out s (List.mem_of_getElem? hs)) (by have := hsl.2.1; omega)
      have HC := Lib.hid (And.intro hcur (And.intro hcs (And.intro hpre hpost)))
      have HM := Lib.hid hs
      have HCALL := Lib.hid hcall
      have HSL := Lib.hid hsl
      have HGI := Lib.hid hgi
      clear hcur hcs hpre hpost hs hcall hsl hgi
      have hi1 : (i : Int) < (l.length : Int) := by omega
      go_wp2_with fail
      refine HCALL.out.mono ?_
      rintro e w2 ⟨rfl, hv2, hb2, ho2⟩
      have hgs := HGI.out s (List.mem_of_getElem? HM.out)
      have hcur2 := (ho2.2 g (by omega) hgs).trans HC.out.1
      have hsame : ∀ k, k < wr.heap.size → (k < s.lo ∨ s.hi ≤ k) → w2.heap[k]? = wr.heap[k]? := ho2.2
      have hs2 := ho2.1
      have HV2 := Lib.hid hv2
      have HB2 := Lib.hid hb2
      have HSAME := Lib.hid hsame
      clear hv2 hb2 ho2 hsame
      have step : ∀ W : World, wr.heap.size ≤ W.heap.size → (∀ k, k ≠ g → k < w2.heap.size → W.heap[k]? = w2.heap[k]?) → (Out lo w.heap.size w W) ∧ (∀ t ∈ keptS p l i, VSep W t.lo t.hi t.n t.b) ∧ (∀ j t, i + 1 ≤ j → l[j]? = some t → VSep W t.lo t.hi t.n t.b) ∧ VSep W s.lo s.hi (filtV p s.n) s.b := by
        intro W hW1 hW2
        have hin : ∀ t ∈ l, lo ≤ t.lo ∧ t.hi ≤ w.heap.size ∧ (g < t.lo ∨ t.hi ≤ g) := fun t ht => ⟨(HS.out.1 t ht).1, (HS.out.1 t ht).2.1, HGI.out t ht⟩
        have hsi := hin s (List.mem_of_getElem? HM.out)
        refine ⟨⟨by omega, fun k hk1 hk2 => ?_⟩, fun t ht => ?_, fun j t hj ht => ?_, ?_⟩
        · rw [hW2 k (by omega) (by omega), HSAME.out k (by omega) (by omega), HOUT.out.2 k hk1 hk2]
        · obtain ⟨j, t0, hj, ht0, rfl⟩ := keptS_mem ht
          have h1 := pair_at HS.out.2 hj ht0 HM.out
          have h2 := hin t0 (List.mem_of_getElem? ht0)
          exact (HKP.out _ ht).step (fun k q1 q2 => by
            have q1' : t0.lo ≤ k := q1
            have q2' : k < t0.hi := q2
            rw [hW2 k (by omega) (by omega), HSAME.out k (by omega) (by omega)]) (Nat.le_refl _) (Nat.le_refl _)
        · have h1 := pair_at HS.out.2 (show i < j by omega) HM.out ht
          have h2 := hin t (List.mem_of_getElem? ht)
          exact (HRS.out j t (by omega) ht).step (fun k q1 q2 => by rw [hW2 k (by omega) (by omega), HSAME.out k (by omega) (by omega)]) (Nat.le_refl _) (Nat.le_refl _)
        · exact HV2.out.step (fun k q1 q2 => hW2 k (by omega) (by omega)) (Nat.le_refl _) (Nat.le_refl _)
      have STEP := Lib.hid step
      clear step
      cases hpm : leftV p s.n with
      | true =>
        have HPM := Lib.hid hpm
        clear hpm
        have hklt : (keptS p l i).length < l.length := by omega
        have hkc : (keptS p l i).length < cur.size := by have := HC.out.2.1; omega
        have d0 : w2.cell? ⟨g, (keptS p l i).length, none⟩ = some (cur[(keptS p l i).length]'hkc) := by
          rw [World.cell?]
          simp [hcur2]
        have f0 : w2.frozen? ⟨g, (keptS p l i).length, none⟩ = false := by
          rw [World.frozen?]
          simp [hcur2]
        have hk1 : ((keptS p l i).length : Int) < (l.length : Int) := by omega
        have HCUR2 := Lib.hid hcur2
        clear hcur2
        go_wp2_with fail
        go_roundw
        case rel =>
          have hks := keptS_succ p HM.out
          rw [HPM.out, if_pos rfl] at hks
          obtain ⟨s1, s2, s3, s4⟩ := STEP.out (w2.setCell ⟨g, (keptS p l i).length, none⟩ (Nd 101 s.b)) (by simpa using hs2) (fun k hk _ => heap_setCell_other _ _ _ _ (by simpa using hk))
          refine ⟨i + 1, by omega, by go_num, by rw [hks, List.length_append]; go_num, s1, HB2.out.setCell (by show B ≤ g; omega) _, fun g' n' cap' hr' => ?_, fun t ht => ?_, fun t s' ht1 ht2 => s3 t s' ht1 ht2⟩
          · cases hr'
            refine ⟨cur.set! (keptS p l i).length (Nd 101 s.b), ?_, by simpa using HC.out.2.1, fun t m' ht => ?_, fun t s' ht1 ht2 => ?_⟩
            · have := heap_setCell_same w2 g (keptS p l i).length cur 73 (Nd 101 s.b) HCUR2.out
              simpa using this
            · rw [hks] at ht
              by_cases htk : t < (keptS p l i).length
              · rw [List.getElem?_append_left htk] at ht
                have h1 := HC.out.2.2.1 t m' ht
                simpa [Array.getElem?_setIfInBounds, show (keptS p l i).length ≠ t by omega] using h1
              · rw [List.getElem?_append_right (by omega)] at ht
                have ht0 : t = (keptS p l i).length := by
                  have := (List.getElem?_eq_some_iff.1 ht).1
                  simp at this
                  omega
                subst ht0
                simp at ht
                subst ht
                simp [Array.getElem?_setIfInBounds, hkc, Sp.v, Sp.filt]
            · have h1 := HC.out.2.2.2 t s' (by omega) ht2
              simpa [Array.getElem?_setIfInBounds, show (keptS p l i).length ≠ t by omega] using h1
          · rw [hks] at ht
            rcases List.mem_append.1 ht with ht | ht
            · exact s2 t ht
            · simp only [List.mem_singleton] at ht
              subst ht
              exact s4
        case measure => simp [intOf]; omega
      | false =>
        have HPM := Lib.hid hpm
        have HCUR2 := Lib.hid hcur2
        clear hpm hcur2
        go_wp2_with fail
        go_roundw
        case rel =>
          have hks := keptS_succ p HM.out
          rw [HPM.out] at hks
          simp only [Bool.false_eq_true, if_false, List.append_nil] at hks
          obtain ⟨s1, s2, s3, s4⟩ := STEP.out w2 hs2 (fun k _ _ => rfl)
          refine ⟨i + 1, by omega, by go_num, by rw [hks], s1, HB2.out, fun g' n' cap' hr' => ?_, fun t ht => by rw [hks] at ht; exact s2 t ht, fun t s' ht1 ht2 => s3 t s' ht1 ht2⟩
          cases hr'
          refine ⟨cur, HCUR2.out, HC.out.2.1, fun t m' ht => ?_, fun t s' ht1 ht2 => HC.out.2.2.2 t s' (by omega) ht2⟩
          rw [hks] at ht
          exact HC.out.2.2.1 t m' ht
        case measure => simp [intOf]; omega
    · have e : i = l.length := by omega
      subst e
      have HROW := Lib.hid hrow
      clear hrow
      have hin : ∀ t ∈ keptS p l l.length, lo ≤ t.lo ∧ t.hi ≤ w.heap.size ∧ (∀ g, (Value.slice a l.length cap).ownBlock = some g → g < t.lo ∨ t.hi ≤ g) := fun t ht => by
        obtain ⟨j, t0, _, ht0, rfl⟩ := keptS_mem ht
        have := HS.out.1 t0 (List.mem_of_getElem? ht0)
        exact ⟨this.1, this.2.1, this.2.2.1⟩
      have hpw : (keptS p l l.length).Pairwise fun s t => s.hi ≤ t.lo := by
        unfold keptS
        rw [List.take_length, List.pairwise_map]
        exact (HS.out.2.sublist List.filter_sublist).imp fun h => h
      have HIN := Lib.hid (And.intro hin hpw)
      clear hin hpw
      rcases HA.out with ⟨rfl, h0, rfl⟩ | ⟨g, rfl⟩
      · obtain rfl : l = [] := List.length_eq_zero_iff.1 h0
        go_wp2_with fail
        go_ret
        exact ⟨_, rfl, World.ownsRow_nil _ _ _ _, SpIn.nil _ _ _ _, HBEL.out, HOUT.out⟩
      · have hkc : ((keptS p l l.length).length : Int) ≤ (cap : Int) := by omega
        go_wp2_with fail
        go_ret
        obtain ⟨cur, hcur, hcs, hpre, _⟩ := HROW.out g l.length cap rfl
        have hgl := (HO.out.lt g rfl).1
        refine ⟨_, rfl, ⟨by simp, .inr ⟨g, cap, cur, by simp, hgl, hcur, by omega, ?_, by omega, ?_⟩⟩, ⟨fun s hs => ?_, HIN.out.2⟩, HBEL.out, HOUT.out⟩
        · rcases HO.out.2 with ⟨h, _⟩ | ⟨_, c, _, h, _, _, _, hm, _⟩
          · simp at h
          · simp only [Value.slice.injEq] at h; rw [h.2.2]; exact hm
        · refine List.ext_getElem? fun t => ?_
          rw [List.getElem?_take, List.getElem?_map]
          split
          · rename_i ht
            have ht' : t < (keptS p l l.length).length := by omega
            rw [List.getElem?_eq_getElem ht']
            have := hpre t _ (List.getElem?_eq_getElem ht')
            simpa using this
          · rename_i ht
            rw [List.getElem?_eq_none (by omega)]
            rfl
        · obtain ⟨a1, a2, a3⟩ := HIN.out.1 s hs
          exact ⟨a1, by omega, fun g' hg' => a3 g' (by simpa [Value.ownBlock] using hg'), HKP.out s hs⟩
end Go.Proofs.YtoijkbkcfbbmfaaGreatDoor

/- What is proved here: FilterDecl of a declaration of values keeps, in place, the names that a filter takes; of a function it answers as the filter does of its name. -/
namespace Go.Proofs.YtoijkbkcfbbmfaaGreatDoor
open Go.RowKit Go.Shelf
set_option linter.unusedVariables false
set_option linter.unusedSimpArgs false
attribute [local go_sem] as_GenDeclP as_FuncDeclP
attribute [local go_sem ↓] Go.wp_at_zero Go.wp_at_succ

/-- A declaration of values with the names alone that a filter takes. -/
def filtG (p : ByteArray → Bool) (n : N) : N := .mk n.kind n.text ((n.kids.filter (leftV p)).map (filtV p))
theorem keptS_nodes (p : ByteArray → Bool) {l : List Sp} {ks : List N} (h : l.map Sp.n = ks) : (keptS p l l.length).map Sp.n = (ks.filter (leftV p)).map (filtV p) := by
  subst h
  unfold keptS
  rw [List.take_length]
  induction l with
  | nil => rfl
  | cons s r ih =>
    simp only [List.filter_cons, List.map_cons]
    cases leftV p s.n with
    | true => simp only [if_true, List.map_cons]; rw [ih]; rfl
    | false => simpa using ih
theorem owns_le {w : World} {B e size n : Nat} {u : Value} {L : List Value} (h : w.ownsRow B e size u n L) : ∀ g, u.ownBlock = some g → B ≤ g ∧ g < w.heap.size := fun g hg => h.lt g hg

set_option maxHeartbeats 4000000 in
set_option maxRecDepth 100000 in
theorem filt_gen {B lo b : Nat} {p : ByteArray → Bool} {w0 : World} (fv : Value) (n : N) (w : World) (hp : PredS B w0 fv p) (hb0 : Below B w0 w) (hBl : B ≤ lo) (hG : GSep w lo n b) (hn : n.size ≤ 400) :
    Calls Tryz.prog 40 #[Nd 66 b, fv, .bool false] w fun e w' => e = .returned (.bool (n.kids.any (leftV p))) ∧ GSep w' lo (filtG p n) b ∧ Below B w0 w' := by
  obtain ⟨l, vv, t, d, u5, ht, hd, hlo, hB, ho, hS, hns⟩ := hG
  have hll : l.length = n.kids.length := by rw [← hns, List.length_map]
  have hl400 : l.length ≤ 400 := by have := N.len_lt n; omega
  have hsz : ∀ s ∈ l, s.n.size ≤ 400 := fun s hs => by
    have h1 : s.n ∈ n.kids := by rw [← hns]; exact List.mem_map_of_mem hs
    have := kid_lt h1
    omega
  rw [← hll] at ho
  have hcall := filt_specs fv vv l w hp hb0 (by omega) ho hS (by omega) hsz
  obtain ⟨a, cap, rfl, hcap⟩ := owns_shape ho
  have c4 := hB.cell 4 _ rfl
  have hblt := hB.lt
  have HB := Lib.hid hB
  have HCALL := Lib.hid hcall
  have HNS := Lib.hid hns
  have HLL := Lib.hid hll
  clear hB hcall ho hS hns hp hb0 hll
  go_enter Tryz.func40, Tryz.ntmps40
  go_wp2_with fail
  refine HCALL.out.mono ?_
  rintro e w1 ⟨r', rfl, ho1, hS1, hb1, hout⟩
  have hB1 : Blk w1 b 70 _ := (hout.2 b hblt (.inl (by omega))).trans HB.out
  obtain ⟨a1, cap1, rfl, hcap1⟩ := owns_shape ho1
  have d4 := hB1.cell 4 _ rfl
  have f4 := hB1.frozen 4
  have n1 := hB1.lt
  have HB1 := Lib.hid hB1
  have HO1 := Lib.hid ho1
  have HS1 := Lib.hid hS1
  have HBE1 := Lib.hid hb1
  clear hB1 ho1 hS1 hb1 hout
  go_wp2_with fail
  go_ret
  have hk := keptS_nodes p HNS.out
  have hlen : (keptS p l l.length).length = ((n.kids.filter (leftV p)).map (filtV p)).length := by rw [← hk, List.length_map]
  have hX : ∀ g, (Value.slice a1 (keptS p l l.length).length cap1).ownBlock = some g → b < g := fun g hg => by have := (HO1.out.lt g hg).1; omega
  refine ⟨?_, ⟨keptS p l l.length, .slice a1 (keptS p l l.length).length cap1, t, d, u5, ?_, hd, hlo, ?_, ?_, ?_, hk⟩, ?_⟩
  · have h1 : n.kids.any (leftV p) = decide (0 < (keptS p l l.length).length) := by
      rw [hlen, List.length_map, Bool.eq_iff_iff]
      simp [List.length_pos_iff]
    rw [h1]
    by_cases h0 : 0 < (keptS p l l.length).length
    · simp [h0]
    · simp [h0]
  · unfold tokOf isK at ht ⊢
    exact ht
  · have := HB1.out.set 4 (.slice a1 (keptS p l l.length).length cap1)
    simpa using this
  · show World.ownsRow _ _ _ _ _ ((n.kids.filter (leftV p)).map (filtV p)).length _
    rw [← hlen]
    exact ownsRow_setCell_below HO1.out (by show b < b + 1; omega) _
  · exact HS1.out.set (by omega)
  · exact HBE1.out.setCell (by show B ≤ b; omega) _
set_option maxHeartbeats 4000000 in
set_option maxRecDepth 100000 in
theorem filt_func {B b s : Nat} {p : ByteArray → Bool} {w0 : World} (fv : Value) (t : ByteArray) (w : World) (hp : PredS B w0 fv p) (hb0 : Below B w0 w) (c2 : w.cell? ⟨b, 2, none⟩ = some (Pt s)) (c1 : w.cell? ⟨s, 1, none⟩ = some (.string t)) :
    Calls Tryz.prog 40 #[Nd 51 b, fv, .bool false] w fun e w' => e = .returned (.bool (p t)) ∧ Below w.heap.size w w' := by
  obtain ⟨f, caps, rfl, hcf, hpf⟩ := hp
  have HP := Lib.hid hpf
  have HB0 := Lib.hid hb0
  clear hpf hb0
  go_enter Tryz.func40, Tryz.ntmps40
  go_wp2_with fail
  refine (HP.out t w HB0.out).mono ?_
  rintro e w2 ⟨rfl, hb2⟩
  go_wp2_with fail
  go_ret
  exact ⟨rfl, hb2⟩
theorem filterDecl_any (v fv : Value) (w : World) (c : Bool) (Q : World → Prop) (h : Calls Tryz.prog 40 #[v, fv, .bool false] w fun e w' => e = .returned (.bool c) ∧ Q w') : Calls Tryz.prog 19 #[v, fv] w fun e w' => e = .returned (.bool c) ∧ Q w' := by
  have H := Lib.hid h
  clear h
  go_enter Tryz.func19, Tryz.ntmps19
  go_wp2_with fail
  refine H.out.mono ?_
  rintro e w' ⟨rfl, hp⟩
  go_wp2_with fail
  go_ret
  exact ⟨rfl, hp⟩
/-- Whether a text is one of some. -/
def isIn (L : List ByteArray) (s : ByteArray) : Bool := L.any fun x => x.toList == s.toList
set_option maxHeartbeats 4000000 in
set_option maxRecDepth 100000 in
theorem implF1 {B c : Nat} (L : List ByteArray) (vs : Value) (s : ByteArray) (w : World) (hc : w.cell? ⟨c, 0, none⟩ = some vs) (hs : StrsAt B w vs L) (hl : L.length ≤ 2147483647) :
    Calls Tryz.prog 20 #[.string s, Pt c] w fun e w' => e = .returned (.bool (isIn L s)) ∧ Below w.heap.size w w' := by
  obtain ⟨a, cap, rfl, hcap, hel⟩ := hs
  have HEL := Lib.hid hel
  clear hel
  go_enter Tryz.func20, Tryz.ntmps20
  go_wp2_with fail
  go_loopw [8] (fun vi wr => ∃ i : Nat, i ≤ L.length ∧ vi = .int .i64 i ∧ wr = w ∧ (L.drop i).any (fun x => x.toList == s.toList) = isIn L s) (fun vi _ => L.length - (intOf vi).toNat)
  case atStart => exact ⟨0, Nat.zero_le _, rfl, rfl, rfl⟩
  case round =>
    obtain ⟨i, hi, rfl, rfl, hany⟩ := hrel
    have HANY := Lib.hid hany
    clear hany
    by_cases hil : i < L.length
    · obtain ⟨x, hx⟩ : ∃ x, L[i]? = some x := ⟨_, List.getElem?_eq_getElem hil⟩
      obtain ⟨b, o, rfl, hb, c0⟩ := HEL.out i x hx
      have hi1 : (i : Int) < (L.length : Int) := by omega
      have hd := getElem?_drop_cons hx
      have HD := Lib.hid hd
      clear hd hx
      cases hxs : (x.toList == s.toList) with
      | true =>
        have hxe : x = s := toList_inj (by simpa using hxs)
        subst hxe
        go_wp2_with fail
        go_ret
        have h := HANY.out
        rw [HD.out, List.any_cons, beq_self_eq_true, Bool.true_or] at h
        exact ⟨by rw [← h]; rfl, Below.refl _ _⟩
      | false =>
        have hxl : x.toList ≠ s.toList := by simpa using hxs
        have hxe : x ≠ s := fun h => hxl (by rw [h])
        go_wp2_with fail
        go_roundw
        case rel =>
          have h := HANY.out
          rw [HD.out, List.any_cons, hxs, Bool.false_or] at h
          exact ⟨i + 1, by omega, by go_num, by trivial, h⟩
        case measure => simp [intOf]; omega
    · have e : i = L.length := by omega
      subst e
      have hr : isIn L s = false := by have h := HANY.out; simp at h; exact h
      go_wp2_with fail
      go_ret
      exact ⟨by rw [hr]; rfl, Below.refl _ _⟩
end Go.Proofs.YtoijkbkcfbbmfaaGreatDoor

/- What is proved here: impl.Filter answers with the tree of the names that are left, and whether there are any. Conditions: the declaration has a shape, is a function without a body or names of values without values; the table of tokens lies as the program lays it. -/
namespace Go.Proofs.YtoijkbkcfbbmfaaGreatDoor
open Go.RowKit Go.Shelf
set_option linter.unusedVariables false
set_option linter.unusedSimpArgs false
attribute [local go_sem ↓] Go.wp_at_zero Go.wp_at_succ

/-- Whether a value has no values. -/
def noVals (v : N) : Bool := match v.kids with | [_, _, z] => z.kids.length == 0 | _ => false
/-- Whether a declaration is a function without a body, or names of values without values. -/
def namesB (n : N) : Bool :=
  if isK n [102, 117, 110, 99] then (match n.kids with | [_, _, z] => missing z | _ => false)
  else (isK n [100, 101, 99, 108, 97, 114, 101, 32, 118, 97, 114] || isK n [100, 101, 99, 108, 97, 114, 101, 32, 99, 111, 110, 115, 116]) && n.kids.all noVals
/-- The tree that a filter leaves, and whether it leaves a name. -/
def filtN (p : ByteArray → Bool) (n : N) : N := if isK n [102, 117, 110, 99] then n else filtG p n
def leftN (p : ByteArray → Bool) (n : N) : Bool := if isK n [102, 117, 110, 99] then p n.text else n.kids.any (leftV p)

theorem sizes_filter (q : N → Bool) (l : List N) : N.sizes (l.filter q) ≤ N.sizes l := by
  induction l with
  | nil => exact Nat.le_refl _
  | cons x r ih =>
    rw [List.filter_cons, N.sizes_cons]
    split
    · rw [N.sizes_cons]; omega
    · omega
theorem filtV_size (p : ByteArray → Bool) (n : N) : (filtV p n).size ≤ n.size := by
  unfold filtV
  split
  · rename_i x y z h
    have h1 := N.size_eq n
    have h2 := N.size_eq x
    have h3 := sizes_filter (fun m => p m.text) x.kids
    rw [h1, h]
    simp only [N.size, N.sizes]
    omega
  · exact Nat.le_refl _
theorem sizes_map (p : ByteArray → Bool) (l : List N) : N.sizes (l.map (filtV p)) ≤ N.sizes l := by
  induction l with
  | nil => exact Nat.le_refl _
  | cons x r ih =>
    rw [List.map_cons, N.sizes_cons, N.sizes_cons]
    have := filtV_size p x
    omega
theorem filtN_size (p : ByteArray → Bool) (n : N) : (filtN p n).size ≤ n.size := by
  unfold filtN
  split
  · exact Nat.le_refl _
  · unfold filtG
    have h1 := N.size_eq n
    have h2 := sizes_map p (n.kids.filter (leftV p))
    have h3 := sizes_filter (leftV p) n.kids
    rw [h1]
    simp only [N.size]
    omega

theorem build_sep (n : N) (v : Value) (w : World) (hs : shapedB n = true) (hnm : namesB n = true) (hf : isK n [102, 117, 110, 99] = false) (hk : KidsAt (· < w.heap.size) w v n.kids) (hT : TokTab w) (h0 : 0 < w.heap.size) :
    Calls Tryz.prog 18 #[n.val v, .slice none 0 0] w fun e w' => ∃ b, e = .returned (Nd 66 b) ∧ Below w.heap.size w w' ∧ GSep w' w.heap.size n b := by
  have hn := shaped_small hs
  simp only [namesB, hf, Bool.false_eq_true, if_false, Bool.and_eq_true, Bool.or_eq_true] at hnm
  obtain ⟨hk2, hall⟩ := hnm
  simp only [shapedB, Bool.and_eq_true, Bool.or_eq_true] at hs
  obtain ⟨⟨⟨_, _⟩, hd⟩, htx⟩ := hs
  have htx2 : n.text.toList = [103, 114, 111, 117, 112] ∨ n.text.toList = [] := by
    rcases htx with h | h | h
    · rw [hf] at h; cases h
    · exact .inl (beq_iff_eq.1 h)
    · exact .inr (by simpa using h.1)
  have key : ∀ (i : Nat) (l : List UInt8), tokW[i]? = some l → isK n ([100, 101, 99, 108, 97, 114, 101, 32] ++ l) = true → tokOf n = some (61 + i) → (∀ m ∈ n.kids, valueB 400 m = true) →
      Calls Tryz.prog 18 #[n.val v, .slice none 0 0] w fun e w' => ∃ b, e = .returned (Nd 66 b) ∧ Below w.heap.size w w' ∧ GSep w' w.heap.size n b := by
    intro i l hl hkk htk hit
    have hit2 : ∀ m ∈ n.kids, bareV m = true := fun m hm => by
      have h1 := hit m hm
      have h2 := List.all_eq_true.1 hall m hm
      unfold noVals at h2
      unfold bareV
      rw [h1, Bool.true_and]
      split at h2
      · rename_i x y z hz
        rw [hz]
        simpa using h2
      · cases h2
    rcases htx2 with h | h
    · exact bsep_gen1 n v w hn i l hl (isK_eq hkk) h hit2 htk hT hk h0
    · exact bsep_gen0 n v w hn i l hl (isK_eq hkk) h hit2 htk hT hk h0
  rcases hk2 with hkk | hkk
  · have hkd := isK_eq hkk
    have hit : ∀ m ∈ n.kids, valueB 400 m = true := by
      have h := hd
      simp [declB, isK, hkd] at h
      exact fun m hm => by simpa using h m hm
    exact key 24 _ rfl hkk (by simp [tokOf, isK, hkd]) hit
  · have hkd := isK_eq hkk
    have hit : ∀ m ∈ n.kids, valueB 400 m = true := by
      have h := hd
      simp [declB, isK, hkd] at h
      exact fun m hm => by simpa using h m hm
    exact key 3 _ rfl hkk (by simp [tokOf, isK, hkd]) hit
/-- impl.Filter's answer. -/
def FPost (n : N) (L : List ByteArray) (w : World) (e : Ending) (w' : World) : Prop :=
  ∃ (a : Option Addr) (l c : Nat), e = .returned (.tuple #[.agg #[.string (filtN (isIn L) n).kind, .string (filtN (isIn L) n).text, .slice a l c], .bool (leftN (isIn L) n)]) ∧ KidsAt (· < w'.heap.size) w' (.slice a l c) (filtN (isIn L) n).kids ∧ Below w.heap.size w w'
end Go.Proofs.YtoijkbkcfbbmfaaGreatDoor

/- What is proved here: impl.Filter answers with the tree of the names that are left, and whether there are any. Conditions: the declaration has a shape, is a function without a body or names of values without values; the table of tokens lies as the program lays it. -/
namespace Go.Proofs.YtoijkbkcfbbmfaaGreatDoor
open Go.RowKit Go.Shelf
set_option linter.unusedVariables false
set_option linter.unusedSimpArgs false
attribute [local go_sem ↓] Go.wp_at_zero Go.wp_at_succ

theorem ret_node2 {fn : Func} {k m : Nat} (h : fn.results = #[.cell k 24, .tmp m]) (tmps : Array Value) {w : World} {X : Nat} {x y z u : Value} (ht : tmps.getD k undef = Pt X) (hu : tmps.getD m undef = u) (hB : Blk w X 24 #[x, y, z]) : (results fn tmps).run Tryz.prog w = .ok (.tuple #[.agg #[x, y, z], u]) w := by
  have h0 := hB.cell 0 _ rfl
  have h1 := hB.cell 1 _ rfl
  have h2 := hB.cell 2 _ rfl
  simp at h0 h1 h2
  rw [Array.getD_eq_getD_getElem?] at ht hu
  simp [results, h, ht, hu, go_sem, h0, h1, h2]
theorem predS_closure {B c : Nat} {w1 : World} {L : List ByteArray} {vs : Value} (hc : w1.cell? ⟨c, 0, none⟩ = some vs) (hcB : c < B) (hs : StrsAt B w1 vs L) (hl : L.length ≤ 2147483647) : PredS B w1 (.func (.func 20) #[] #[Pt c]) (isIn L) := by
  have hen : Enters Tryz.prog 20 := enters_of Tryz.func20 (by kernel_rfl) rfl
  exact ⟨20, #[Pt c], rfl, fun args w => hen args w, fun s w hb => implF1 L vs s w ((hb.cell (p := ⟨c, 0, none⟩) hcB).trans hc) (hs.below hb (Nat.le_refl _)) hl⟩
set_option maxHeartbeats 4000000 in
set_option maxRecDepth 100000 in
theorem implFilter_any (n : N) (v vs : Value) (L : List ByteArray) (w : World) (hs : shapedB n = true) (hnm : namesB n = true) (hk : KidsAt (· < w.heap.size) w v n.kids) (hvs : StrsAt w.heap.size w vs L) (hl : L.length ≤ 2147483647) (hT : TokTab w) (h0 : 0 < w.heap.size) :
    Calls Tryz.prog 9 #[n.val v, vs] w fun e w' => FPost n L w e w' := by
  obtain ⟨a, cap, rfl, hcap, _⟩ := hk.shape
  have hn := shaped_small hs
  obtain ⟨av, cv, rfl, hcv, _⟩ := id hvs
  obtain ⟨w1, hw1⟩ : ∃ w1, ((w.alloc (Obj.cells #[Value.string n.kind, Value.string n.text, .slice a n.kids.length cap] 24)).alloc (Obj.cells #[.slice av L.length cv] 25)).alloc (Obj.cells #[Value.string ⟨#[]⟩, Value.string ⟨#[]⟩, Value.slice none 0 0] 24) = w1 := ⟨_, rfl⟩
  have hb1 : Below w.heap.size w w1 := by
    rw [← hw1]
    exact ((((Below.refl _ _).alloc (Nat.le_refl _) _).alloc (by simp) _).alloc (by simp; omega) _)
  have hz1 : w1.heap.size = w.heap.size + 3 := by rw [← hw1]; simp
  have hBN : Blk w1 w.heap.size 24 #[Value.string n.kind, Value.string n.text, .slice a n.kids.length cap] := by
    rw [← hw1]
    exact ((Blk.new w _ _).later ((Below.refl (w.heap.size + 1) _).alloc (by simp) _) (by omega)).later ((Below.refl (w.heap.size + 1) _).alloc (by simp) _) (by omega)
  have hBC : Blk w1 (w.heap.size + 1) 25 #[.slice av L.length cv] := by
    rw [← hw1]
    refine Blk.later ?_ ((Below.refl (w.heap.size + 2) _).alloc (by simp) _) (by omega)
    simpa using Blk.new (w.alloc (Obj.cells #[Value.string n.kind, Value.string n.text, .slice a n.kids.length cap] 24)) #[.slice av L.length cv] 25
  have hBX : Blk w1 (w.heap.size + 1 + 1) 24 #[Value.string ⟨#[]⟩, Value.string ⟨#[]⟩, Value.slice none 0 0] := by
    rw [← hw1]
    simpa using Blk.new ((w.alloc (Obj.cells #[Value.string n.kind, Value.string n.text, .slice a n.kids.length cap] 24)).alloc (Obj.cells #[.slice av L.length cv] 25)) #[Value.string ⟨#[]⟩, Value.string ⟨#[]⟩, Value.slice none 0 0] 24
  have hk1 := hk.later hb1
  have hT1 := hT.later h0 hb1
  have hp : PredS w1.heap.size w1 (.func (.func 20) #[] #[Pt (w.heap.size + 1)]) (isIn L) := by
    refine predS_closure (hBC.cell 0 _ rfl) (by omega) ?_ hl
    obtain ⟨a9, c9, e9, h9, h10⟩ := hvs.below hb1 (Nat.le_refl _)
    exact ⟨a9, c9, e9, h9, fun i s hi => by
      obtain ⟨b, o, q1, q2, q3⟩ := h10 i s hi
      exact ⟨b, o, q1, by omega, q3⟩⟩
  have core : ∀ W, W = w1 → Calls Tryz.prog 18 #[n.val (.slice a n.kids.length cap), .slice none 0 0] W fun e w2 => ∃ t b, e = .returned (Nd t b) ∧ Below w1.heap.size w1 w2 ∧ (t = 66 ∨ t = 51) ∧
      Calls Tryz.prog 19 #[Nd t b, .func (.func 20) #[] #[Pt (w.heap.size + 1)]] w2 fun e w3 => e = .returned (.bool (leftN (isIn L) n)) ∧ Below w1.heap.size w1 w3 ∧ Rep (At (Bt w1.heap.size w3.heap.size) w3) (filtN (isIn L) n) (Nd t b) := by
    rintro W rfl
    cases hf : isK n [102, 117, 110, 99] with
    | true =>
      refine (build_any n _ W hs hk1 hT1 (by omega)).mono ?_
      rintro e w2 ⟨t, b, rfl, ht, hb2, hr2⟩
      refine ⟨t, b, rfl, hb2, ht, filterDecl_any _ _ _ _ _ ?_⟩
      have e1 : leftN (isIn L) n = isIn L n.text := by simp [leftN, hf]
      have e2 : filtN (isIn L) n = n := by simp [filtN, hf]
      rw [e1, e2]
      have hr3 := hr2
      cases hr2 with
      | func _ _ x y z vx px s t vz pz hk h0 cd cx ox rx cs rs ct rt cz oz rz =>
        refine (filt_func _ n.text w2 hp hb2 cs.2 rs.ident_inv.2.2.2).mono ?_
        rintro e w3 ⟨rfl, hb3⟩
        exact ⟨rfl, hb2.trans (hb3.mono hb2.size), hr3.beneath hb3 (Nat.le_refl _) (Nat.le_refl _) hb3.size⟩
      | gen _ _ V wl t d hkk =>
        rcases tokOf_kind hkk with h | h | h | h <;> (rw [isK, isK_eq h] at hf; simp at hf)
      | _ => simp at ht
    | false =>
      refine (build_sep n _ W hs hnm hf hk1 hT1 (by omega)).mono ?_
      rintro e w2 ⟨b, rfl, hb2, hG⟩
      refine ⟨_, b, rfl, hb2, .inl rfl, filterDecl_any _ _ _ _ _ ?_⟩
      have e1 : leftN (isIn L) n = n.kids.any (leftV (isIn L)) := by simp [leftN, hf]
      have e2 : filtN (isIn L) n = filtG (isIn L) n := by simp [filtN, hf]
      rw [e1, e2]
      refine (filt_gen _ n w2 hp hb2 (Nat.le_refl _) hG hn).mono ?_
      rintro e w3 ⟨rfl, hG3, hb3⟩
      exact ⟨rfl, hb3, hG3.rep⟩
  have CORE := Lib.hid core
  have HB1 := Lib.hid hb1
  have HBX := Lib.hid hBX
  have HT := Lib.hid hT
  have H0 := Lib.hid h0
  have HN := Lib.hid hn
  have e0 := hBN.cell 0 _ rfl
  have e1 := hBN.cell 1 _ rfl
  have e2 := hBN.cell 2 _ rfl
  have en := hBN.lt
  clear core hp hk1 hT1 hb1 hBX hBC hBN hvs hk hs hnm hT h0 hn
  unfold N.val at CORE ⊢
  go_enter Tryz.func9, Tryz.ntmps9
  go_wp2_with fail
  refine (CORE.out _ rfl).mono ?_
  rintro e w2 ⟨t, b, rfl, hb2, ht, hc⟩
  have HB2 := Lib.hid hb2
  have HC := Lib.hid hc
  have HTT := Lib.hid ht
  clear hb2 hc ht
  go_wp2_with fail
  refine HC.out.mono ?_
  rintro e w3 ⟨rfl, hb3, hr3⟩
  have hs3 := hb3.size
  have hbw3 : Below w.heap.size w w3 := HB1.out.trans (hb3.mono HB1.out.size)
  have hd := decl_back HTT.out (n := filtN (isIn L) n) (by have := filtN_size (isIn L) n; have := HN.out; omega) hr3 w3 (fun b o u hc => hc.2) (HT.out.later H0.out hbw3)
  have HD := Lib.hid hd
  have HX3 := Lib.hid (HBX.out.later hb3 (by omega))
  have HBW3 := Lib.hid hbw3
  clear hd hb3 hr3 hbw3
  go_wp2_with fail
  refine HD.out.mono ?_
  rintro e w4 ⟨⟨a4, l4, c4, rfl, hk4⟩, hb4⟩
  have hX4 := HX3.out.later hb4 (by omega)
  have x0 := hX4.cell 0 _ rfl
  have x1 := hX4.cell 1 _ rfl
  have x2 := hX4.cell 2 _ rfl
  have f0 := hX4.frozen 0
  have f1 := hX4.frozen 1
  have f2 := hX4.frozen 2
  have xl := hX4.lt
  have HX4 := Lib.hid hX4
  have HK4 := Lib.hid hk4
  have HB4 := Lib.hid hb4
  clear hX4 hk4 hb4
  go_wp2_with fail
  refine bodyPost_ret (ret_node2 rfl _ rfl rfl (Blk.node3 HX4.out)) rfl ⟨a4, l4, c4, rfl, ?_, ?_⟩
  · have h := ((HK4.out.setC (X := w.heap.size + 1 + 1) (i := 0) (u := .string (filtN (isIn L) n).kind) (fun h => by have := h.1; omega)).setC (X := w.heap.size + 1 + 1) (i := 1) (u := .string (filtN (isIn L) n).text) (fun h => by have := h.1; omega)).setC (X := w.heap.size + 1 + 1) (i := 2) (u := .slice a4 l4 c4) (fun h => by have := h.1; omega)
    exact h.mono fun b hb => by simpa using hb.2
  · exact (((HBW3.out.trans (HB4.out.mono HBW3.out.size)).setCell (by simp; omega) _).setCell (by simp; omega) _).setCell (by simp; omega) _
end Go.Proofs.YtoijkbkcfbbmfaaGreatDoor

