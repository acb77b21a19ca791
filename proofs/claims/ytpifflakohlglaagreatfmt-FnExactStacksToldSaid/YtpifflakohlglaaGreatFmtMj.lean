/- What is proved here: the visitor of Inspect, comparison of slices, spec.below, first part. Conditions: each theorem names its own. -/
import Derived.Deep.AppendLies
import Derived.Deep.QuietTactic
import Derived.BigQuiet
import Derived.IntWalk
import Derived.Deep.RegionHeld3
import Derived.Test.YtpifflakohlglaaGreatFmtMh
import Derived.Test.YtpifflakohlglaaGreatFmtMf
import Derived.Test.YtpifflakohlglaaGreatFmtMi
set_option linter.all false
set_option linter.unusedVariables false
set_option linter.unusedSimpArgs false
/- What is proved here: the visitor of Inspect. -/
namespace Go.Proofs.YtpifflakohlglaaGreatFmt
open Go.RowKit Go.Shelf
set_option linter.unusedVariables false
set_option linter.unusedSimpArgs false

/-- A function as a visitor. -/
abbrev Insp (g : Nat) (caps : Array Value) : Value := .iface 278 (.func (.func g) #[] caps)
theorem cm_insp (g : Nat) (caps : Array Value) (x : Value) (w : World) : (callMethod (Insp g caps) "Visit" #[x]).run Tryz.prog w = .ok (.enter 288 #[.func (.func g) #[] caps, x]) w := by kernel_rfl
def InspPost (g : Nat) (caps : Array Value) (R : Bool → World → Prop) (e : Ending) (w' : World) : Prop := ∃ t : Bool, e = .returned (if t then Insp g caps else .nilIface) ∧ R t w'
def BoolPost (R : Bool → World → Prop) (e : Ending) (w' : World) : Prop := ∃ t : Bool, e = .returned (.bool t) ∧ R t w'
theorem insp_any (g : Nat) (caps : Array Value) (x : Value) (w : World) (hen : Enters Tryz.prog g) (R : Bool → World → Prop) (h : Calls Tryz.prog g (#[x] ++ caps) w (BoolPost R)) :
    Calls Tryz.prog 288 #[.func (.func g) #[] caps, x] w (InspPost g caps R) := by
  have HX := Lib.hid h
  have hcf := fun args w => hen args w
  clear h hen
  go_enter Tryz.func288, Tryz.ntmps288
  go_wp2_with fail
  refine HX.out.mono ?_
  rintro e w2 ⟨t, rfl, hR⟩
  have HR := Lib.hid hR
  clear hR hcf
  cases t with
  | true =>
    go_wp2_with fail
    go_ret
    exact ⟨true, rfl, HR.out⟩
  | false =>
    go_wp2_with fail
    go_ret
    exact ⟨false, rfl, HR.out⟩

theorem underStrings : Tryz.prog.underlying 33 = some (.slice 9) := by kernel_rfl
theorem infoString : (Tryz.prog.info? 9).map (fun i => (i.zero, i.size, i.bytes)) = some (some (.string ⟨#[]⟩), 1, 16) := by kernel_rfl
end Go.Proofs.YtpifflakohlglaaGreatFmt

/- What is proved here: Inspect calls Walk; some small facts. -/
namespace Go.Proofs.YtpifflakohlglaaGreatFmt
open Go.RowKit Go.Shelf
set_option linter.unusedVariables false
set_option linter.unusedSimpArgs false

theorem inspect_any (g : Nat) (caps : Array Value) (x : Value) (w : World) (R : World → Prop) (h : Calls Tryz.prog 21 #[Insp g caps, x] w fun e w' => e = .returned (.tuple #[]) ∧ R w') :
    Calls Tryz.prog 57 #[x, .func (.func g) #[] caps] w fun e w' => e = .returned (.tuple #[]) ∧ R w' := by
  have HX := Lib.hid h
  clear h
  go_enter Tryz.func57, Tryz.ntmps57
  go_wp2_with fail
  refine HX.out.mono ?_
  rintro e w2 ⟨rfl, hR⟩
  have HR := Lib.hid hR
  clear hR
  go_wp2_with fail
  refine bodyPost_end (results_none rfl _ _ _) rfl ⟨rfl, HR.out⟩
theorem own_mono {w : World} {base base' : Nat} {e size n : Nat} {v : Value} {xs : List Value} (h : w.ownsRow base e size v n xs) (hb : base' ≤ base) : w.ownsRow base' e size v n xs :=
  ⟨h.1, h.2.imp id fun ⟨g, cap, cur, h1, h2, h3⟩ => ⟨g, cap, cur, h1, Nat.le_trans hb h2, h3⟩⟩
theorem cost_small {n : N} {C : Nat → Nat → Value → Prop} {t b : Nat} (h : Rep C n (Nd t b)) (hs : n.size ≤ 400) (f : Nat) : cost f n ≤ 1600 := by
  rw [cost_kinds]
  have := kinds_le f h
  omega
end Go.Proofs.YtpifflakohlglaaGreatFmt

/- What is proved here: slices.Equal says yes of two slices that read alike. -/
namespace Go.Proofs.YtpifflakohlglaaGreatFmt
open Go.RowKit Go.Shelf
set_option linter.unusedVariables false
set_option linter.unusedSimpArgs false

/-- A slice of elements of so many cells, as it reads. -/
def RowAt (w : World) (k : Nat) (v : Value) (n : Nat) (F : Nat → Nat → Value) : Prop := ∃ a cap, v = .slice a n cap ∧ ∀ i, i < n → ∃ b o, a = some ⟨b, o, none⟩ ∧ ∀ j, j < k → w.cell? ⟨b, o + i * k + j, none⟩ = some (F i j)
theorem RowAt.later {w w' : World} {k : Nat} {v : Value} {n : Nat} {F : Nat → Nat → Value} (h : RowAt w k v n F) (hw : ∀ b o u, w.cell? ⟨b, o, none⟩ = some u → w'.cell? ⟨b, o, none⟩ = some u) : RowAt w' k v n F := by
  obtain ⟨a, cap, h1, h2⟩ := h
  exact ⟨a, cap, h1, fun i hi => by obtain ⟨b, o, e, hc⟩ := h2 i hi; exact ⟨b, o, e, fun j hj => hw _ _ _ (hc j hj)⟩⟩
theorem cell_keep {w w' : World} (h : Below w.heap.size w w') {b o : Nat} {u : Value} (hc : w.cell? ⟨b, o, none⟩ = some u) : w'.cell? ⟨b, o, none⟩ = some u := by
  have hb : b < w.heap.size := World.block_lt_of_cell? w _ hc
  exact (h.cell (p := ⟨b, o, none⟩) hb).trans hc
theorem RowAt.below {w w' : World} {k : Nat} {v : Value} {n : Nat} {F : Nat → Nat → Value} (h : RowAt w k v n F) (hb : Below w.heap.size w w') : RowAt w' k v n F := h.later fun b o u hc => cell_keep hb hc
theorem RowAt.drewN {w : World} {k : Nat} {v : Value} {n : Nat} {F : Nat → Nat → Value} (h : RowAt w k v n F) (q : Nat) : RowAt (w.drewN q) k v n F := h.later fun b o u hc => hc
theorem RowAt.congr {w : World} {k : Nat} {v : Value} {n : Nat} {F G : Nat → Nat → Value} (h : RowAt w k v n F) (hf : ∀ i j, i < n → j < k → F i j = G i j) : RowAt w k v n G := by
  obtain ⟨a, cap, h1, h2⟩ := h
  exact ⟨a, cap, h1, fun i hi => by obtain ⟨b, o, e, hc⟩ := h2 i hi; exact ⟨b, o, e, fun j hj => by rw [hc j hj, hf i j hi hj]⟩⟩
theorem RowAt.of_owns {w : World} {base e size n : Nat} {v : Value} {xs : List Value} (h : w.ownsRow base e size v n xs) : RowAt w size v n (fun i j => xs.getD (i * size + j) .nilIface) := by
  obtain ⟨hlen, ⟨rfl, rfl⟩ | ⟨g, cap, cur, rfl, hb, hcur, hn, hcap, hsz, htk⟩⟩ := h
  · exact ⟨none, 0, rfl, fun i hi => absurd hi (Nat.not_lt_zero _)⟩
  · refine ⟨some ⟨g, 0, none⟩, cap, rfl, fun i hi => ⟨g, 0, rfl, fun j hj => ?_⟩⟩
    have hlt : i * size + j < n * size := by
      have h1 : (i + 1) * size ≤ n * size := Nat.mul_le_mul_right _ hi
      rw [Nat.add_mul] at h1
      omega
    have hle : n * size ≤ cap * size := Nat.mul_le_mul_right _ hn
    have e1 : xs.getD (i * size + j) .nilIface = cur.toList.getD (i * size + j) .nilIface := by
      rw [← htk]
      simp only [List.getD_eq_getElem?_getD, List.getElem?_take]
      rw [if_pos hlt]
    show w.cell? ⟨g, 0 + i * size + j, none⟩ = some (xs.getD (i * size + j) .nilIface)
    rw [e1]
    have hcs : i * size + j < cur.size := by omega

    rw [Nat.zero_add]
    simp [World.cell?, hcur, List.getD_eq_getElem?_getD, hcs]

set_option maxHeartbeats 1000000 in
set_option maxRecDepth 100000 in
theorem eq_strings (n : Nat) (v v' : Value) (F : Nat → ByteArray) (w : World) (hn : n ≤ 1000000) (h : RowAt w 1 v n (fun i _ => Value.string (F i))) (h' : RowAt w 1 v' n (fun i _ => Value.string (F i))) :
    Calls Tryz.prog 12 #[v, v'] w fun e w' => e = .returned (.bool true) ∧ ∃ q, w' = w.drewN q := by
  obtain ⟨a, cap, rfl, hel⟩ := h
  obtain ⟨a', cap', rfl, hel'⟩ := h'
  have H1 := Lib.hid hel
  have H2 := Lib.hid hel'
  clear hel hel'
  go_enter Tryz.func12, Tryz.ntmps12
  go_wp2_with fail
  go_loopw [13] (fun i wr => ∃ j q : Nat, j ≤ n ∧ i = .int .i64 j ∧ wr = w.drewN q) (fun i _ => n - (intOf i).toNat)
  case atStart => exact ⟨0, 0, Nat.zero_le _, rfl, rfl⟩
  case round =>
    obtain ⟨j, q, hj, rfl, rfl⟩ := hrel
    by_cases hjl : j < n
    · obtain ⟨b, o, rfl, c0⟩ := H1.out j hjl
      obtain ⟨b', o', rfl, c0'⟩ := H2.out j hjl
      have g1 : w.cell? ⟨b, o + j, none⟩ = some (Value.string (F j)) := by simpa using c0 0 (by omega)
      have g2 : w.cell? ⟨b', o' + j, none⟩ = some (Value.string (F j)) := by simpa using c0' 0 (by omega)
      clear c0 c0'
      generalize F j = x at g1 g2
      go_wp2_with fail
      go_region
      go_wp2_with fail
      go_roundw
      case measure => simp [intOf]; omega
      case rel => exact ⟨j + 1, q + 1, by omega, by go_num, rfl⟩
    · have e : j = n := by omega
      subst e
      go_wp2_with fail
      go_ret
      exact ⟨rfl, q, rfl⟩
end Go.Proofs.YtpifflakohlglaaGreatFmt

/- What is proved here: rows of nodes that a call owns, and how they grow. -/
namespace Go.Proofs.YtpifflakohlglaaGreatFmt
open Go.RowKit Go.Shelf
set_option linter.unusedVariables false
set_option linter.unusedSimpArgs false

/-- Cells that read as a list of nodes, what is below these in the blocks under B. -/
def Cells (B : Nat) (w : World) : List N → List Value → Prop
  | [], xs => xs = []
  | m :: r, xs => ∃ V rest, xs = .string m.kind :: .string m.text :: V :: rest ∧ KidsAt (· < B) w V m.kids ∧ Cells B w r rest
theorem Cells.under {B : Nat} {w w' : World} (hb : Below B w w') : ∀ {L : List N} {xs : List Value}, Cells B w L xs → Cells B w' L xs := by
  intro L
  induction L with
  | nil => exact fun h => h
  | cons m r ih =>
    rintro xs ⟨V, rest, rfl, hk, hr⟩
    exact ⟨V, rest, rfl, hk.under hb, ih hr⟩
theorem Cells.app {B : Nat} {w : World} : ∀ {L M : List N} {xs ys : List Value}, Cells B w L xs → Cells B w M ys → Cells B w (L ++ M) (xs ++ ys) := by
  intro L
  induction L with
  | nil => intro M xs ys h k; simp only [Cells] at h; subst h; exact k
  | cons m r ih =>
    rintro M xs ys ⟨V, rest, rfl, hk, hr⟩ k
    exact ⟨V, rest ++ ys, rfl, hk, ih hr k⟩
theorem Cells.one {B : Nat} {w : World} {m : N} {V : Value} (h : KidsAt (· < B) w V m.kids) : Cells B w [m] [.string m.kind, .string m.text, V] := ⟨V, [], rfl, h, rfl⟩
theorem Cells.len {B : Nat} {w : World} : ∀ {L : List N} {xs : List Value}, Cells B w L xs → xs.length = L.length * 3 := by
  intro L
  induction L with
  | nil => intro xs h; simp only [Cells] at h; subst h; rfl
  | cons m r ih => rintro xs ⟨V, rest, rfl, hk, hr⟩; have := ih hr; simp; omega
theorem Cells.ones {B : Nat} {w : World} : ∀ {L : List N} {xs : List Value}, Cells B w L xs → ∀ u ∈ xs, u.oneCell' = true := by
  intro L
  induction L with
  | nil => intro xs h; simp only [Cells] at h; subst h; simp
  | cons m r ih =>
    rintro xs ⟨V, rest, rfl, hk, hr⟩ u hu
    obtain ⟨a, c, rfl, _⟩ := hk.len
    simp only [List.mem_cons] at hu
    rcases hu with rfl | rfl | rfl | hu
    · rfl
    · rfl
    · rfl
    · exact ih hr u hu
theorem Cells.at {B : Nat} {w : World} : ∀ {L : List N} {xs : List Value}, Cells B w L xs → ∀ {i : Nat} {m : N}, L[i]? = some m → xs[i * 3]? = some (.string m.kind) ∧ xs[i * 3 + 1]? = some (.string m.text) ∧ ∃ V, xs[i * 3 + 2]? = some V ∧ KidsAt (· < B) w V m.kids := by
  intro L
  induction L with
  | nil => intro xs _ i m h; simp at h
  | cons x r ih =>
    rintro xs ⟨V, rest, rfl, hk, hr⟩ i m hi
    cases i with
    | zero => simp at hi; subst hi; exact ⟨rfl, rfl, V, rfl, hk⟩
    | succ i =>
      have := ih hr (i := i) (m := m) (by simpa using hi)
      rw [show (i + 1) * 3 = i * 3 + 3 by omega, show i * 3 + 3 + 1 = i * 3 + 1 + 3 by omega, show i * 3 + 3 + 2 = i * 3 + 2 + 3 by omega]
      simpa using this
theorem add_off (b o j : Nat) : (⟨b, o, none⟩ : Addr).add j = ⟨b, o + j, none⟩ := by unfold Addr.add; split <;> simp_all
/-- The cells of a slice of nodes. -/
theorem KidsAt.cells {B : Nat} {w : World} {b : Nat} : ∀ {ks : List N} {o len cap : Nat}, KidsAt (· < B) w (.slice (some ⟨b, o, none⟩) len cap) ks → ∃ xs, Cells B w ks xs ∧ ∀ j u, xs[j]? = some u → w.cell? ((⟨b, o, none⟩ : Addr).add j) = some u := by
  intro ks
  induction ks with
  | nil => intro o len cap _; exact ⟨[], rfl, fun j u h => by simp at h⟩
  | cons x r ih =>
    intro o len cap h
    obtain ⟨b', o', cap', a2, cap2, hv, hcap, hb, c0, c1, c2, hk⟩ := h.kid0 rfl
    simp only [Value.slice.injEq, Option.some.injEq, Addr.mk.injEq, and_true] at hv
    obtain ⟨⟨rfl, rfl⟩, _, _⟩ := hv
    obtain ⟨ys, hy, hc⟩ := ih (h.tail rfl (some ⟨b, o + 3, none⟩) r.length (fun _ => rfl) (Nat.le_refl _))
    refine ⟨.string x.kind :: .string x.text :: .slice a2 x.kids.length cap2 :: ys, ⟨_, ys, rfl, hk, hy⟩, fun j u hj => ?_⟩
    rw [add_off]
    match j, hj with
    | 0, hj => simp at hj; subst hj; exact c0
    | 1, hj => simp at hj; subst hj; exact c1
    | 2, hj => simp at hj; subst hj; exact c2
    | j + 3, hj =>
      have := hc j u (by simpa using hj)
      rw [add_off] at this
      rw [show o + (j + 3) = o + 3 + j by omega]
      exact this
/-- A row of nodes that a call owns: the blocks of the world ahead are as they were; what is below the nodes lies under B. -/
structure Own3 (B : Nat) (w0 wr : World) (v : Value) (L : List N) : Prop where
  own : ∃ xs, wr.ownsRow w0.heap.size 24 3 v L.length xs ∧ Cells B wr L xs
  low : Below w0.heap.size w0 wr
  le : B ≤ w0.heap.size
theorem Own3.nil {B : Nat} {w0 wr : World} (h : Below w0.heap.size w0 wr) (hB : B ≤ w0.heap.size) : Own3 B w0 wr (.slice none 0 0) [] := ⟨⟨[], World.ownsRow_nil _ _ _ _, rfl⟩, h, hB⟩
theorem Own3.later {B : Nat} {w0 wr w' : World} {v : Value} {L : List N} (h : Own3 B w0 wr v L) (hb : Below wr.heap.size wr w') : Own3 B w0 w' v L := by
  obtain ⟨⟨xs, h1, h2⟩, hl, hB⟩ := h
  exact ⟨⟨xs, owns_kept h1 hb, h2.under (hb.mono (Nat.le_trans hB hl.size))⟩, hl.trans (hb.mono hl.size), hB⟩
theorem Own3.slice {B : Nat} {w0 wr : World} {v : Value} {L : List N} (h : Own3 B w0 wr v L) : ∃ a c, v = .slice a L.length c := by
  obtain ⟨⟨xs, h1, h2⟩, hl, _⟩ := h
  rcases h1.2 with ⟨rfl, h⟩ | ⟨_, _, _, h, _⟩
  · exact ⟨_, _, by rw [h]⟩
  · exact ⟨_, _, h⟩
theorem Own3.reads {B : Nat} {w0 wr : World} {v : Value} {L : List N} (h : Own3 B w0 wr v L) : KidsAt (fun b => b < B ∨ (w0.heap.size ≤ b ∧ b < wr.heap.size)) wr v L := by
  obtain ⟨⟨xs, h1, h2⟩, hl, hB⟩ := h
  by_cases h0 : L = []
  · subst h0
    rcases h1.2 with ⟨rfl, _⟩ | ⟨g, cap, _, rfl, _⟩
    · exact .nil _ _
    · exact .nil _ _
  · have hpos : 0 < L.length := by cases L; exact absurd rfl h0; simp
    obtain ⟨g, cap, rfl, hg, hlt⟩ := h1.form hpos
    have hc := h1.cells rfl
    obtain ⟨_, hx⟩ := h1
    have hcap : L.length ≤ cap := by
      rcases hx with ⟨h, _⟩ | ⟨g', cap', _, h, _, _, hn, _⟩
      · simp at h
      · simp only [Value.slice.injEq] at h; omega
    refine .cons g 0 cap L (fun i => xs.getD (i * 3 + 2) .nilIface) (.inr ⟨hg, hlt⟩) hpos hcap (fun i n hi => ?_) (fun i n hi => ?_)
    · obtain ⟨a1, a2, V, a3, _⟩ := h2.at hi
      have c0 := hc _ _ a1
      have c1 := hc _ _ a2
      have c2 := hc _ _ a3
      rw [add_off] at c0 c1 c2
      refine ⟨c0, by rw [Nat.add_assoc]; exact c1, ?_⟩
      rw [Nat.add_assoc, c2]
      simp [List.getD_eq_getElem?_getD, a3]
    · obtain ⟨a1, a2, V, a3, hk⟩ := h2.at hi
      have : xs.getD (i * 3 + 2) .nilIface = V := by simp [List.getD_eq_getElem?_getD, a3]
      show KidsAt _ _ (xs.getD (i * 3 + 2) .nilIface) _
      rw [this]
      exact hk.mono fun b (hb : b < B) => .inl hb
/-- What an append gives. -/
theorem Own3.app {B : Nat} {w0 wr w' : World} {v v' : Value} {L M : List N} {n : Nat} (h : Own3 B w0 wr v L) {xs ys : List Value} (hown : wr.ownsRow w0.heap.size 24 3 v L.length xs) (hxs : Cells B wr L xs) (hy : Cells B wr M ys)
    (hown' : w'.ownsRow w0.heap.size 24 3 v' n (xs ++ ys)) (hn : n = L.length + M.length) (hg : wr.grownBy w' v.ownBlock) : Own3 B w0 w' v' (L ++ M) := by
  subst hn
  have hb : Below w0.heap.size w0 w' := h.low.grown hg h.low.size (fun k hk => (hown.lt k hk).1)
  have hb' : Below w0.heap.size wr w' := ⟨hg.os, hg.tape, hg.output, hg.size, fun k hk => hg.block k (Nat.lt_of_lt_of_le hk h.low.size) (fun e => by have := (hown.lt k e.symm).1; omega)⟩
  exact ⟨⟨xs ++ ys, by rw [List.length_append]; exact hown', (hxs.under (hb'.mono h.le)).app (hy.under (hb'.mono h.le))⟩, hb, h.le⟩
end Go.Proofs.YtpifflakohlglaaGreatFmt

/- What is proved here: the nodes of texts; slices.Clone of nodes. -/
namespace Go.Proofs.YtpifflakohlglaaGreatFmt
open Go.RowKit Go.Shelf
set_option linter.unusedVariables false
set_option linter.unusedSimpArgs false

theorem specIdent_any (t : ByteArray) (w : World) : Calls Tryz.prog 55 #[.string t] w fun e w' => e = .returned ((identN t).val (.slice none 0 0)) ∧ Below w.heap.size w w' := by
  go_enter Tryz.func55, Tryz.ntmps55
  go_wp2_with fail
  refine bodyPost_ret (v := (identN t).val (.slice none 0 0)) (by simp [results, Tryz.f55, go_sem, identN, N.val, N.kind, N.text]) rfl ?_
  refine ⟨rfl, ?_⟩
  repeat (first | (with_reducible exact Below.refl _ _) | (with_reducible refine Below.alloc ?_ (by first | (simp only [World.size_setCell, World.size_alloc, dsz]; omega) | omega) _) | (with_reducible refine Below.setCell ?_ (by first | (simp only [World.size_setCell, World.size_alloc, dsz]; omega) | omega) _))
theorem specLiteral_any (t : ByteArray) (w : World) : Calls Tryz.prog 54 #[.string t] w fun e w' => e = .returned ((litN t).val (.slice none 0 0)) ∧ Below w.heap.size w w' := by
  go_enter Tryz.func54, Tryz.ntmps54
  go_wp2_with fail
  refine bodyPost_ret (v := (litN t).val (.slice none 0 0)) (by simp [results, Tryz.f54, go_sem, litN, N.val, N.kind, N.text]) rfl ?_
  refine ⟨rfl, ?_⟩
  repeat (first | (with_reducible exact Below.refl _ _) | (with_reducible refine Below.alloc ?_ (by first | (simp only [World.size_setCell, World.size_alloc, dsz]; omega) | omega) _) | (with_reducible refine Below.setCell ?_ (by first | (simp only [World.size_setCell, World.size_alloc, dsz]; omega) | omega) _))

/-- append of nothing. -/
theorem wpl_append_zero {ops : Array Oper} {rest : List Oper} {o : Oper} {a : Act} {w : World} {Q : Exit → Act → World → Prop} (hgd : o.guard = none) (s x : Operand)
    (ho : o.op = .call { callee := .builtin .append, args := #[s, x], argTypes := #[22, 22] }) (ad ax : Option Addr) (n c cx : Nat) (hnc : n ≤ c) (hs : a.eval s = .slice ad n c) (hx : a.eval x = .slice ax 0 cx) (hn : ad = none → n = 0 ∧ c = 0)
    (h : wpList Tryz.prog ops Q rest (a.put o.dst (.slice ad n c)) w) : wpList Tryz.prog ops Q (o :: rest) a w := by
  refine wpList_plain hgd fun _ hK => ?_
  obtain ⟨i0, hi, hz0, hz1, hz2⟩ := info_parts info24
  have hr := run_underlying (w := w) under22
  have hsz : (sizeOf 24).run Tryz.prog w = .ok 3 w := by rw [run_sizeOf w hi]; simp [Program.cellsOf, hi, hz1]
  have hex : (execOp a.eval o).run Tryz.prog w = .ok (.value (.slice ad n c)) w := by
    cases ad with
    | none =>
      obtain ⟨rfl, rfl⟩ := hn rfl
      cases ax <;> simp [execOp, ho, resolve, invoke, builtin, Builtin.append_, hs, hx, hr, hsz, Builtin.lenOf, Builtin.firstCells, storeCells, loadCells, loadCellsFrom]
    | some ad =>
      cases ax <;> simp [execOp, ho, resolve, invoke, builtin, Builtin.append_, hs, hx, hr, hsz, Builtin.lenOf, Builtin.firstCells, hnc, storeCells, loadCells, loadCellsFrom]
  unfold Oper.wp
  rw [hex, Oper.upon_value]
  exact hK _ _ h
theorem nil_some (ad : Addr) (n c : Nat) (w : World) : (binOp .eql 22 (.slice (some ad) n c) (.slice none 0 0)).run Tryz.prog w = .ok (.bool false) w := by kernel_rfl
theorem nil_none (n c : Nat) (w : World) : (binOp .eql 22 (.slice none n c) (.slice none 0 0)).run Tryz.prog w = .ok (.bool true) w := by kernel_rfl
theorem own_none (w : World) : (w.alloc (.cells #[] 24)).ownsRow w.heap.size 24 3 (.slice (some ⟨w.heap.size, 0, none⟩) 0 0) 0 [] :=
  ⟨rfl, .inr ⟨_, 0, #[], rfl, Nat.le_refl _, heap_alloc_new _ _, Nat.le_refl _, by decide, rfl, rfl⟩⟩
set_option maxHeartbeats 1000000 in
set_option maxRecDepth 100000 in
theorem clone_any (B : Nat) (ks : List N) (v : Value) (w : World) (hB : B ≤ w.heap.size) (hn : ks.length ≤ 1000000) (hk : KidsAt (· < B) w v ks) : Calls Tryz.prog 53 #[v] w fun e w' => ∃ v', e = .returned v' ∧ Own3 B w w' v' ks := by
  obtain ⟨a, cap, rfl, hcap, _⟩ := hk.shape
  obtain ⟨i0, hi, hz0, hz1, hz2⟩ := info_parts info24
  have HI := Lib.hid (And.intro hi (And.intro hz0 (And.intro hz1 hz2)))
  have HO := Lib.hid (own_none w)
  have HB : Hid (Below w.heap.size w (w.alloc (.cells #[] 24))) := Lib.hid ((Below.refl w.heap.size w).alloc (Nat.le_refl _) _)
  clear hi hz0 hz1 hz2
  have HK := Lib.hid hk
  clear hk
  have e0 := nil_none
  have e1 := nil_some
  cases a with
  | none =>
    have h0 : ks = [] := by
      cases hks : ks with
      | nil => rfl
      | cons x r =>
        obtain ⟨b, o, c, a2, c2, hv, _⟩ := HK.out.kid0 hks
        simp at hv
    subst h0
    go_enter Tryz.func53, Tryz.ntmps53
    go_wp2_with fail
    go_ret
    exact ⟨_, rfl, .nil (Below.refl _ _) hB⟩
  | some ad =>
    by_cases h0 : ks.length = 0
    · have h0' : ks = [] := List.length_eq_zero_iff.1 h0
      subst h0'
      go_enter Tryz.func53, Tryz.ntmps53
      go_wp2_with (at_builtin; refine wpl_append_zero rfl (.tmp 5) (.tmp 6) rfl _ _ 0 0 cap (Nat.le_refl _) rfl rfl (fun h => by simp at h) ?_)
      go_ret
      exact ⟨_, rfl, ⟨⟨[], HO.out, rfl⟩, HB.out, hB⟩⟩
    · obtain ⟨b, o, rfl⟩ : ∃ b o, ad = ⟨b, o, none⟩ := by
        cases hks : ks with
        | nil => rw [hks] at h0; simp at h0
        | cons x r =>
          obtain ⟨b, o, c, a2, c2, hv, _⟩ := HK.out.kid0 hks
          simp only [Value.slice.injEq, Option.some.injEq] at hv
          exact ⟨b, o, hv.1⟩
      obtain ⟨ys, hy, hc⟩ := HK.out.cells
      have hyl := hy.len
      have hc' : ∀ j u, ys[j]? = some u → (w.alloc (.cells #[] 24)).cell? ((⟨b, o, none⟩ : Addr).add j) = some u := fun j u hj => by
        have := hc j u hj
        rw [add_off] at this ⊢
        exact cell_keep HB.out this
      have HY := Lib.hid hy
      have HYL := Lib.hid hyl
      have HC := Lib.hid hc'
      have HN := Lib.hid h0
      clear hy hc hc' hyl h0
      go_enter Tryz.func53, Tryz.ntmps53
      go_wp2_with (at_builtin; refine wpList_append_lies _ rfl (.tmp 5) (.tmp 6) 22 rfl w.heap.size 24 i0 (.agg #[.string ⟨#[]⟩, .string ⟨#[]⟩, .slice none 0 0]) 3 56 under22 HI.out.1 HI.out.2.1 HI.out.2.2.1 HI.out.2.2.2 rfl (by decide) _ 0 [] rfl HO.out ⟨b, o, none⟩ ks.length cap ys rfl HYL.out HC.out HY.out.ones ?c1 ?c2 ?c3 ?c4 _ rfl ?_)
      case c1 => have := HN.out; omega
      case c2 => unfold maxLen; omega
      case c3 => omega
      case c4 => simp
      intro g cap' w5 hown5 hgrow5 hat5 hlt5
      have hres := Own3.app (L := []) (M := ks) (n := ks.length) (ys := ys) ⟨⟨[], HO.out, rfl⟩, HB.out, hB⟩ HO.out rfl (HY.out.under (HB.out.mono hB)) (by simpa using hown5) (by simp) hgrow5
      have HR := Lib.hid hres
      clear hown5 hgrow5 hat5 hres
      go_wp2_with fail
      go_ret
      exact ⟨_, rfl, by simpa using HR.out⟩
end Go.Proofs.YtpifflakohlglaaGreatFmt

/- What is proved here: append of whatever lies in memory to a row that a call owns, nothing included; at the types of the program. -/
namespace Go.Proofs.YtpifflakohlglaaGreatFmt
open Go.RowKit Go.Shelf
set_option linter.unusedVariables false
set_option linter.unusedSimpArgs false

theorem wpl_append_nothing {ops : Array Oper} {rest : List Oper} {o : Oper} {a : Act} {w : World} {Q : Exit → Act → World → Prop} (hgd : o.guard = none) (s x : Operand) (t e size : Nat)
    (ho : o.op = .call { callee := .builtin .append, args := #[s, x], argTypes := #[t, t] }) (hu : Tryz.prog.underlying t = some (.slice e)) (i : TypeInfo) (hi : Tryz.prog.info? e = some i) (hsize : i.size = size)
    (ad ax : Option Addr) (n c cx : Nat) (hnc : n ≤ c) (hs : a.eval s = .slice ad n c) (hx : a.eval x = .slice ax 0 cx) (hn : ad = none → n = 0 ∧ c = 0)
    (h : wpList Tryz.prog ops Q rest (a.put o.dst (.slice ad n c)) w) : wpList Tryz.prog ops Q (o :: rest) a w := by
  refine wpList_plain hgd fun _ hK => ?_
  have hr := run_underlying (w := w) hu
  have hsz : (sizeOf e).run Tryz.prog w = .ok size w := by rw [run_sizeOf w hi]; simp [Program.cellsOf, hi, hsize]
  have hex : (execOp a.eval o).run Tryz.prog w = .ok (.value (.slice ad n c)) w := by
    cases ad with
    | none =>
      obtain ⟨rfl, rfl⟩ := hn rfl
      cases ax <;> simp [execOp, ho, resolve, invoke, builtin, Builtin.append_, hs, hx, hr, hsz, Builtin.lenOf, Builtin.firstCells, storeCells, loadCells, loadCellsFrom]
    | some ad =>
      cases ax <;> simp [execOp, ho, resolve, invoke, builtin, Builtin.append_, hs, hx, hr, hsz, Builtin.lenOf, Builtin.firstCells, hnc, storeCells, loadCells, loadCellsFrom]
  unfold Oper.wp
  rw [hex, Oper.upon_value]
  exact hK _ _ h
theorem owns_form {w : World} {base e size n : Nat} {v : Value} {xs : List Value} (h : w.ownsRow base e size v n xs) : ∃ ad c, v = .slice ad n c ∧ n ≤ c ∧ (ad = none → n = 0 ∧ c = 0) := by
  rcases h.2 with ⟨rfl, h0⟩ | ⟨g, cap, cur, rfl, hb, hcur, hn, hcap, hsz, htk⟩
  · have hn : n = 0 := by simpa using h0
    subst hn
    exact ⟨none, 0, rfl, Nat.le_refl _, fun _ => ⟨rfl, rfl⟩⟩
  · exact ⟨_, cap, rfl, hn, fun h => by simp at h⟩
/-- append of what lies in memory, nothing included. -/
theorem wpl_app_row {ops : Array Oper} {rest : List Oper} {o : Oper} {a : Act} {w : World} {Q : Exit → Act → World → Prop} (hgd : o.guard = none) (s x : Operand) (t : Nat)
    (ho : o.op = .call { callee := .builtin .append, args := #[s, x], argTypes := #[t, t] }) (base e : Nat) (i : TypeInfo) (z : Value) (size bytes : Nat) (hu : Tryz.prog.underlying t = some (.slice e)) (hi : Tryz.prog.info? e = some i) (hz : i.zero = some z)
    (hsize : i.size = size) (hby : i.bytes = bytes) (hzs : z.cells.size = size) (hsz : 0 < size)
    (v : Value) (n : Nat) (xs : List Value) (hs : a.eval s = v) (hown : w.ownsRow base e size v n xs)
    (ax : Option Addr) (m c : Nat) (news : List Value) (hx : a.eval x = .slice ax m c) (hl : news.length = m * size) (hnews : ∀ j u, news[j]? = some u → ∃ p, ax = some p ∧ w.cell? (p.add j) = some u) (h1 : ∀ u ∈ news, u.oneCell' = true)
    (h63 : n + m ≤ maxLen) (hbytes : (n + m) * bytes ≤ 140737488355328) (hbase : base ≤ w.heap.size)
    (h : ∀ v' w', w'.ownsRow base e size v' (n + m) (xs ++ news) → w.grownBy w' v.ownBlock → (v'.ownBlock = v.ownBlock ∨ ∃ g, v'.ownBlock = some g ∧ w.heap.size ≤ g) → wpList Tryz.prog ops Q rest (a.put o.dst v') w') : wpList Tryz.prog ops Q (o :: rest) a w := by
  by_cases hm : m = 0
  · subst hm
    have hnil : news = [] := by simpa using hl
    subst hnil
    obtain ⟨ad, cc, rfl, hnc, hnn⟩ := owns_form hown
    refine wpl_append_nothing hgd s x t e size ho hu i hi hsize ad ax n cc c hnc hs hx hnn ?_
    exact h _ w (by simpa using hown) (World.grownBy.refl _ _) (.inl rfl)
  · have hm' : 0 < m := Nat.pos_of_ne_zero hm
    have hlen : 0 < news.length := by rw [hl]; exact Nat.mul_pos hm' hsz
    obtain ⟨p, rfl, _⟩ := hnews 0 _ (List.getElem?_eq_getElem hlen)
    refine wpList_append_lies w hgd s x t ho base e i z size bytes hu hi hz hsize hby hzs hsz v n xs hs hown p m c news hx hl (fun j u hj => ?_) h1 hm' h63 hbytes hbase w.heap.size rfl fun g cap w' h2 h3 h4 _ => h _ w' h2 h3 (h4.imp (fun e => by rw [e]; rfl) (fun e => ⟨g, rfl, Nat.le_of_eq e.symm⟩))
    obtain ⟨q, hq, hc⟩ := hnews j u hj
    cases hq
    exact hc

/-- The same at nodes. -/
theorem wpl_app_nodes {ops : Array Oper} {rest : List Oper} {o : Oper} {a : Act} {B : Nat} {w0 w : World} {Q : Exit → Act → World → Prop} (hgd : o.guard = none) (s x : Operand)
    (ho : o.op = .call { callee := .builtin .append, args := #[s, x], argTypes := #[22, 22] }) (v : Value) (L M : List N) (hs : a.eval s = v) (hown : Own3 B w0 w v L) (ax : Option Addr) (c : Nat) (ys : List Value) (hx : a.eval x = .slice ax M.length c)
    (hys : Cells B w M ys) (hnews : ∀ j y, ys[j]? = some y → ∃ p, ax = some p ∧ w.cell? (p.add j) = some y)
    (hlen : L.length + M.length ≤ 3000000)
    (h : ∀ v' w', Own3 B w0 w' v' (L ++ M) → w.grownBy w' v.ownBlock → wpList Tryz.prog ops Q rest (a.put o.dst v') w') : wpList Tryz.prog ops Q (o :: rest) a w := by
  obtain ⟨i0, hi, hz0, hz1, hz2⟩ := info_parts info24
  obtain ⟨⟨xs, h1, h2⟩, hl, hB⟩ := hown
  refine wpl_app_row hgd s x 22 ho w0.heap.size 24 i0 (.agg #[.string ⟨#[]⟩, .string ⟨#[]⟩, .slice none 0 0]) 3 56 under22 hi hz0 hz1 hz2 rfl (by decide) v L.length xs hs h1 ax M.length c ys hx hys.len hnews hys.ones (by unfold maxLen; omega) (by omega) hl.size fun v' w' h3 h4 _ => h v' w' ?_ h4
  exact Own3.app ⟨⟨xs, h1, h2⟩, hl, hB⟩ h1 h2 hys h3 rfl h4
theorem kids_news {B : Nat} {w : World} {v : Value} {M : List N} (h : KidsAt (· < B) w v M) : ∃ ax c ys, v = .slice ax M.length c ∧ Cells B w M ys ∧ ∀ j y, ys[j]? = some y → ∃ p, ax = some p ∧ w.cell? (p.add j) = some y := by
  obtain ⟨ax, c, rfl, hcap, hel⟩ := h.shape
  cases M with
  | nil => exact ⟨ax, c, [], rfl, rfl, fun j y hj => by simp at hj⟩
  | cons m r =>
    obtain ⟨b, o, V, rfl, _⟩ := hel 0 m rfl
    obtain ⟨ys, h1, h2⟩ := h.cells
    exact ⟨_, c, ys, rfl, h1, fun j y hj => ⟨_, rfl, h2 j y hj⟩⟩
theorem one_news {w : World} (k t V : Value) : ∀ j y, [k, t, V][j]? = some y → ∃ p, (some ⟨w.heap.size, 0, none⟩ : Option Addr) = some p ∧ (w.alloc (.cells #[k, t, V] 24)).cell? (p.add j) = some y := by
  intro j y hj
  exact ⟨_, rfl, World.news_of_block (heap_alloc_new w (.cells #[k, t, V] 24)) j y hj⟩
/-- append of one node that lies in a new block. -/
theorem wpl_app_one {ops : Array Oper} {rest : List Oper} {o : Oper} {a : Act} {B : Nat} {w0 w : World} {Q : Exit → Act → World → Prop} (hgd : o.guard = none) (s x : Operand)
    (ho : o.op = .call { callee := .builtin .append, args := #[s, x], argTypes := #[22, 22] }) (v : Value) (L : List N) (hs : a.eval s = v) (m : N) (V : Value) (hx : a.eval x = .slice (some ⟨w.heap.size, 0, none⟩) 1 1) (hown : Own3 B w0 w v L)
    (hV : KidsAt (· < B) w V m.kids) (hlen : L.length ≤ 2000000)
    (h : ∀ v' w', Own3 B w0 w' v' (L ++ [m]) → wpList Tryz.prog ops Q rest (a.put o.dst v') w') : wpList Tryz.prog ops Q (o :: rest) a (w.alloc (.cells #[.string m.kind, .string m.text, V] 24)) := by
  have hb : Below w.heap.size w (w.alloc (.cells #[.string m.kind, .string m.text, V] 24)) := (Below.refl w.heap.size w).alloc (Nat.le_refl _) _
  refine wpl_app_nodes hgd s x ho v L [m] hs (hown.later hb) (some ⟨w.heap.size, 0, none⟩) 1 [.string m.kind, .string m.text, V] hx (Cells.one (hV.under (hb.mono (Nat.le_trans hown.le hown.low.size)))) (one_news _ _ _) (by simp; omega) fun v' w' h1 _ => h v' w' h1
/-- append of the nodes below one. -/
theorem wpl_app_kids {ops : Array Oper} {rest : List Oper} {o : Oper} {a : Act} {B : Nat} {w0 w : World} {Q : Exit → Act → World → Prop} (hgd : o.guard = none) (s x : Operand)
    (ho : o.op = .call { callee := .builtin .append, args := #[s, x], argTypes := #[22, 22] }) (v : Value) (L M : List N) (hs : a.eval s = v) (u : Value) (hx : a.eval x = u) (hown : Own3 B w0 w v L)
    (hV : KidsAt (· < B) w u M) (hlen : L.length + M.length ≤ 3000000)
    (h : ∀ v' w', Own3 B w0 w' v' (L ++ M) → wpList Tryz.prog ops Q rest (a.put o.dst v') w') : wpList Tryz.prog ops Q (o :: rest) a w := by
  obtain ⟨ax, c, ys, rfl, h1, h2⟩ := kids_news hV
  exact wpl_app_nodes hgd s x ho v L M hs hown ax c ys hx h1 h2 hlen fun v' w' h1 _ => h v' w' h1
theorem flat_len (x : N) : (flat x).length ≤ x.size := by
  have h0 := N.size_eq x
  have h1 := N.len_le x.kids
  unfold flat
  split
  · omega
  · split
    · simp
    · simp; omega
theorem fm_len (l : List N) : (l.flatMap flat).length ≤ N.sizes l := by
  induction l with
  | nil => simp
  | cons x r ih => rw [List.flatMap_cons, List.length_append, N.sizes_cons]; have := flat_len x; omega
theorem sizes_take (l : List N) (j : Nat) : N.sizes (l.take j) ≤ N.sizes l := by
  induction l generalizing j with
  | nil => simp
  | cons x r ih =>
    cases j with
    | zero => simp [N.sizes]
    | succ j => rw [List.take_succ_cons, N.sizes_cons, N.sizes_cons]; have := ih j; omega
theorem fm_take {l : List N} {j : Nat} {x : N} (h : l[j]? = some x) : (l.take (j + 1)).flatMap flat = (l.take j).flatMap flat ++ flat x := by
  rw [List.take_add_one, h]
  simp [List.flatMap_append]
end Go.Proofs.YtpifflakohlglaaGreatFmt

/- What is proved here: spec.below, of a node of one kind after the other. -/
namespace Go.Proofs.YtpifflakohlglaaGreatFmt
open Go.RowKit Go.Shelf
set_option linter.unusedVariables false
set_option linter.unusedSimpArgs false
attribute [local go_sem ↓] Go.wp_at_zero Go.wp_at_succ

theorem own_two (w : World) (a b c d e f : Value) : (w.alloc (.cells #[a, b, c, d, e, f] 24)).ownsRow w.heap.size 24 3 (.slice (some ⟨w.heap.size, 0, none⟩) 2 2) 2 [a, b, c, d, e, f] :=
  ⟨rfl, .inr ⟨_, 2, #[a, b, c, d, e, f], rfl, Nat.le_refl _, heap_alloc_new _ _, Nat.le_refl _, by decide, rfl, rfl⟩⟩
theorem own3_two {B : Nat} {w w' : World} {x y : N} {vx vy : Value} (hB : B ≤ w.heap.size) (hb : Below w.heap.size w w') (hx : KidsAt (· < B) w vx x.kids) (hy : KidsAt (· < B) w vy y.kids) :
    Own3 B w (w'.alloc (.cells #[.string x.kind, .string x.text, vx, .string y.kind, .string y.text, vy] 24)) (.slice (some ⟨w'.heap.size, 0, none⟩) 2 2) [x, y] := by
  have hb2 := hb.alloc hb.size (.cells #[.string x.kind, .string x.text, vx, .string y.kind, .string y.text, vy] 24)
  exact ⟨⟨_, own_mono (own_two w' _ _ _ _ _ _) hb.size, ⟨vx, _, rfl, hx.under (hb2.mono hB), ⟨vy, [], rfl, hy.under (hb2.mono hB), rfl⟩⟩⟩, hb2, hB⟩

theorem ident_raw (t : ByteArray) (w : World) : Calls Tryz.prog 55 #[.string t] w fun e w' => e = .returned (.agg #[.string ⟨#[110, 97, 109, 101]⟩, .string t, .slice none 0 0]) ∧ Below w.heap.size w w' := specIdent_any t w
theorem lit_raw (t : ByteArray) (w : World) : Calls Tryz.prog 54 #[.string t] w fun e w' => e = .returned (.agg #[.string ⟨#[108, 105, 116, 101, 114, 97, 108]⟩, .string t, .slice none 0 0]) ∧ Below w.heap.size w w' := specLiteral_any t w

set_option maxHeartbeats 4000000 in
set_option maxRecDepth 100000 in
theorem bel_select (B : Nat) (n x : N) (v : Value) (w : World) (hB : B ≤ w.heap.size) (hkd : n.kind.toList = [115, 101, 108, 101, 99, 116]) (h0 : n.kids = [x]) (hk : KidsAt (· < B) w v n.kids) :
    Calls Tryz.prog 23 #[n.val v] w fun e w' => ∃ v', e = .returned v' ∧ Own3 B w w' v' [x, identN n.text] := by
  obtain ⟨b, o, cap, a2, cap2, rfl, hcap, hb0, c0, c1, c2, hV⟩ := hk.kid0 h0
  have hb : b < w.heap.size := Nat.lt_of_lt_of_le hb0 hB
  have hlen : n.kids.length = 1 := by rw [h0]; rfl
  rw [hlen] at hcap ⊢
  have BN : Blk (w.alloc (Obj.cells #[Value.string n.kind, Value.string n.text, Value.slice (some ⟨b, o, none⟩) 1 cap] 24)) w.heap.size 24 #[Value.string n.kind, Value.string n.text, Value.slice (some ⟨b, o, none⟩) 1 cap] := Blk.new w _ _
  have hbW : Below w.heap.size w (w.alloc (Obj.cells #[Value.string n.kind, Value.string n.text, Value.slice (some ⟨b, o, none⟩) 1 cap] 24)) := (Below.refl w.heap.size w).alloc (Nat.le_refl _) _
  have hsw : w.heap.size + 1 ≤ (w.alloc (Obj.cells #[Value.string n.kind, Value.string n.text, Value.slice (some ⟨b, o, none⟩) 1 cap] 24)).heap.size := by simp
  have HV := Lib.hid hV
  have HC := Lib.hid (And.intro c0 (And.intro c1 c2))
  have HB := Lib.hid hb
  have nb := World.new_ne w ⟨b, o, none⟩ c0
  clear hV hk h0 hlen
  unfold N.val
  go_enter Tryz.func23, Tryz.ntmps23
  go_wp2_with fail
  generalize w.alloc (Obj.cells #[Value.string n.kind, Value.string n.text, Value.slice (some ⟨b, o, none⟩) 1 cap] 24) = w1 at BN hbW hsw ⊢
  have c0 := (hbW.cell (p := ⟨b, o, none⟩) hb).trans HC.out.1
  have c1 := (hbW.cell (p := ⟨b, o + 1, none⟩) hb).trans HC.out.2.1
  have c2 := (hbW.cell (p := ⟨b, o + 2, none⟩) hb).trans HC.out.2.2
  have e1 := BN.cell 1 _ rfl
  have en := BN.lt
  have lb : b < w1.heap.size := by omega
  have BNh := Lib.hid BN
  have HBW := Lib.hid hbW
  clear BN hbW
  go_region_law (first
        | (refine step_call (by rfl) 55 _ _ (by rfl) #[.string n.text] (by first | (simp [Act.eval]; done) | (simp [Act.eval, Act.put]; done) | rfl) (enters_of Tryz.func55 (by kernel_rfl) rfl) (ident_raw _ _) ?_
           rintro e w3 ⟨rfl, hb3⟩
           refine ⟨_, rfl, ?_⟩
           have hbx := hb3.mono (show w1.heap.size ≤ _ from Nat.le_refl _)
           have c0 := (hbx.cell (p := ⟨b, o, none⟩) lb).trans c0
           have c1 := (hbx.cell (p := ⟨b, o + 1, none⟩) lb).trans c1
           have c2 := (hbx.cell (p := ⟨b, o + 2, none⟩) lb).trans c2
           have e1 := (hbx.cell (p := ⟨w.heap.size, 1, none⟩) en).trans e1
           have s3 : w1.heap.size ≤ w3.heap.size := hbx.size
           have l3 : b < w3.heap.size := by omega
           have en3 : w.heap.size < w3.heap.size := by omega
           have HB3 := Lib.hid (HBW.out.drew.trans (hbx.mono (by omega)))
           clear hb3 hbx))
  all_goals go_wp2_with fail
  all_goals go_ret
  all_goals exact ⟨_, rfl, own3_two (y := identN n.text) hB HB3.out HV.out (.nil none 0)⟩

set_option maxHeartbeats 4000000 in
set_option maxRecDepth 100000 in
theorem bel_type (B : Nat) (n x : N) (v : Value) (w : World) (hB : B ≤ w.heap.size) (hkd : n.kind.toList = [116, 121, 112, 101]) (h0 : n.kids = [x]) (hk : KidsAt (· < B) w v n.kids) :
    Calls Tryz.prog 23 #[n.val v] w fun e w' => ∃ v', e = .returned v' ∧ Own3 B w w' v' [identN n.text, x] := by
  obtain ⟨b, o, cap, a2, cap2, rfl, hcap, hb0, c0, c1, c2, hV⟩ := hk.kid0 h0
  have hb : b < w.heap.size := Nat.lt_of_lt_of_le hb0 hB
  have hlen : n.kids.length = 1 := by rw [h0]; rfl
  rw [hlen] at hcap ⊢
  have BN : Blk (w.alloc (Obj.cells #[Value.string n.kind, Value.string n.text, Value.slice (some ⟨b, o, none⟩) 1 cap] 24)) w.heap.size 24 #[Value.string n.kind, Value.string n.text, Value.slice (some ⟨b, o, none⟩) 1 cap] := Blk.new w _ _
  have hbW : Below w.heap.size w (w.alloc (Obj.cells #[Value.string n.kind, Value.string n.text, Value.slice (some ⟨b, o, none⟩) 1 cap] 24)) := (Below.refl w.heap.size w).alloc (Nat.le_refl _) _
  have hsw : w.heap.size + 1 ≤ (w.alloc (Obj.cells #[Value.string n.kind, Value.string n.text, Value.slice (some ⟨b, o, none⟩) 1 cap] 24)).heap.size := by simp
  have HV := Lib.hid hV
  have HC := Lib.hid (And.intro c0 (And.intro c1 c2))
  have HB := Lib.hid hb
  have nb := World.new_ne w ⟨b, o, none⟩ c0
  clear hV hk h0 hlen
  unfold N.val
  go_enter Tryz.func23, Tryz.ntmps23
  go_wp2_with fail
  generalize w.alloc (Obj.cells #[Value.string n.kind, Value.string n.text, Value.slice (some ⟨b, o, none⟩) 1 cap] 24) = w1 at BN hbW hsw ⊢
  have c0 := (hbW.cell (p := ⟨b, o, none⟩) hb).trans HC.out.1
  have c1 := (hbW.cell (p := ⟨b, o + 1, none⟩) hb).trans HC.out.2.1
  have c2 := (hbW.cell (p := ⟨b, o + 2, none⟩) hb).trans HC.out.2.2
  have e1 := BN.cell 1 _ rfl
  have en := BN.lt
  have lb : b < w1.heap.size := by omega
  have BNh := Lib.hid BN
  have HBW := Lib.hid hbW
  clear BN hbW
  go_region_law (first
        | (refine step_call (by rfl) 55 _ _ (by rfl) #[.string n.text] (by first | (simp [Act.eval]; done) | (simp [Act.eval, Act.put]; done) | rfl) (enters_of Tryz.func55 (by kernel_rfl) rfl) (ident_raw _ _) ?_
           rintro e w3 ⟨rfl, hb3⟩
           refine ⟨_, rfl, ?_⟩
           have hbx := hb3.mono (show w1.heap.size ≤ _ from Nat.le_refl _)
           have c0 := (hbx.cell (p := ⟨b, o, none⟩) lb).trans c0
           have c1 := (hbx.cell (p := ⟨b, o + 1, none⟩) lb).trans c1
           have c2 := (hbx.cell (p := ⟨b, o + 2, none⟩) lb).trans c2
           have e1 := (hbx.cell (p := ⟨w.heap.size, 1, none⟩) en).trans e1
           have s3 : w1.heap.size ≤ w3.heap.size := hbx.size
           have l3 : b < w3.heap.size := by omega
           have en3 : w.heap.size < w3.heap.size := by omega
           have HB3 := Lib.hid (HBW.out.drew.trans (hbx.mono (by omega)))
           clear hb3 hbx))
  all_goals go_wp2_with fail
  all_goals go_ret
  all_goals exact ⟨_, rfl, own3_two (x := identN n.text) hB HB3.out (.nil none 0) HV.out⟩

set_option maxHeartbeats 4000000 in
set_option maxRecDepth 100000 in
theorem bel_alias (B : Nat) (n x : N) (v : Value) (w : World) (hB : B ≤ w.heap.size) (hkd : n.kind.toList = [97, 108, 105, 97, 115]) (h0 : n.kids = [x]) (hk : KidsAt (· < B) w v n.kids) :
    Calls Tryz.prog 23 #[n.val v] w fun e w' => ∃ v', e = .returned v' ∧ Own3 B w w' v' [identN n.text, x] := by
  obtain ⟨b, o, cap, a2, cap2, rfl, hcap, hb0, c0, c1, c2, hV⟩ := hk.kid0 h0
  have hb : b < w.heap.size := Nat.lt_of_lt_of_le hb0 hB
  have hlen : n.kids.length = 1 := by rw [h0]; rfl
  rw [hlen] at hcap ⊢
  have BN : Blk (w.alloc (Obj.cells #[Value.string n.kind, Value.string n.text, Value.slice (some ⟨b, o, none⟩) 1 cap] 24)) w.heap.size 24 #[Value.string n.kind, Value.string n.text, Value.slice (some ⟨b, o, none⟩) 1 cap] := Blk.new w _ _
  have hbW : Below w.heap.size w (w.alloc (Obj.cells #[Value.string n.kind, Value.string n.text, Value.slice (some ⟨b, o, none⟩) 1 cap] 24)) := (Below.refl w.heap.size w).alloc (Nat.le_refl _) _
  have hsw : w.heap.size + 1 ≤ (w.alloc (Obj.cells #[Value.string n.kind, Value.string n.text, Value.slice (some ⟨b, o, none⟩) 1 cap] 24)).heap.size := by simp
  have HV := Lib.hid hV
  have HC := Lib.hid (And.intro c0 (And.intro c1 c2))
  have HB := Lib.hid hb
  have nb := World.new_ne w ⟨b, o, none⟩ c0
  clear hV hk h0 hlen
  unfold N.val
  go_enter Tryz.func23, Tryz.ntmps23
  go_wp2_with fail
  generalize w.alloc (Obj.cells #[Value.string n.kind, Value.string n.text, Value.slice (some ⟨b, o, none⟩) 1 cap] 24) = w1 at BN hbW hsw ⊢
  have c0 := (hbW.cell (p := ⟨b, o, none⟩) hb).trans HC.out.1
  have c1 := (hbW.cell (p := ⟨b, o + 1, none⟩) hb).trans HC.out.2.1
  have c2 := (hbW.cell (p := ⟨b, o + 2, none⟩) hb).trans HC.out.2.2
  have e1 := BN.cell 1 _ rfl
  have en := BN.lt
  have lb : b < w1.heap.size := by omega
  have BNh := Lib.hid BN
  have HBW := Lib.hid hbW
  clear BN hbW
  go_region_law (first
        | (refine step_call (by rfl) 55 _ _ (by rfl) #[.string n.text] (by first | (simp [Act.eval]; done) | (simp [Act.eval, Act.put]; done) | rfl) (enters_of Tryz.func55 (by kernel_rfl) rfl) (ident_raw _ _) ?_
           rintro e w3 ⟨rfl, hb3⟩
           refine ⟨_, rfl, ?_⟩
           have hbx := hb3.mono (show w1.heap.size ≤ _ from Nat.le_refl _)
           have c0 := (hbx.cell (p := ⟨b, o, none⟩) lb).trans c0
           have c1 := (hbx.cell (p := ⟨b, o + 1, none⟩) lb).trans c1
           have c2 := (hbx.cell (p := ⟨b, o + 2, none⟩) lb).trans c2
           have e1 := (hbx.cell (p := ⟨w.heap.size, 1, none⟩) en).trans e1
           have s3 : w1.heap.size ≤ w3.heap.size := hbx.size
           have l3 : b < w3.heap.size := by omega
           have en3 : w.heap.size < w3.heap.size := by omega
           have HB3 := Lib.hid (HBW.out.drew.trans (hbx.mono (by omega)))
           clear hb3 hbx))
  all_goals go_wp2_with fail
  all_goals go_ret
  all_goals exact ⟨_, rfl, own3_two (x := identN n.text) hB HB3.out (.nil none 0) HV.out⟩
end Go.Proofs.YtpifflakohlglaaGreatFmt

/- What is proved here: spec.below, of a node of whatever kind. -/
namespace Go.Proofs.YtpifflakohlglaaGreatFmt
open Go.RowKit Go.Shelf
set_option linter.unusedVariables false
set_option linter.unusedSimpArgs false
attribute [local go_sem ↓] Go.wp_at_zero Go.wp_at_succ

/-- What below gives: a slice that reads as the nodes. -/
def BelPost (B : Nat) (w : World) (L : List N) (e : Ending) (w' : World) : Prop := ∃ v', e = .returned v' ∧ Below w.heap.size w w' ∧ KidsAt (fun b => b < B ∨ (w.heap.size ≤ b ∧ b < w'.heap.size)) w' v' L
theorem Own3.bel1 {B : Nat} {w w1 w' : World} {v : Value} {L : List N} (h : Own3 B w1 w' v L) (hb : Below w.heap.size w w1) : BelPost B w L (.returned v) w' :=
  ⟨v, rfl, hb.trans (h.low.mono hb.size), h.reads.mono fun b hx => hx.imp id fun hx => ⟨Nat.le_trans hb.size hx.1, hx.2⟩⟩
theorem Own3.bel {B : Nat} {w w' : World} {v : Value} {L : List N} (h : Own3 B w w' v L) : BelPost B w L (.returned v) w' := h.bel1 (Below.refl _ _)
theorem missing_raw (n : N) (a : Option Addr) (len cap : Nat) (w : World) (hl : n.kids.length = len) :
    Calls Tryz.prog 37 #[.agg #[.string n.kind, .string n.text, .slice a len cap]] w fun e w' => e = .returned (.bool (missing n)) ∧ Below w.heap.size w w' := by subst hl; exact missing_any n a cap w
abbrev boxN (w : World) (n : N) (v : Value) : World := w.alloc (Obj.cells #[Value.string n.kind, Value.string n.text, v] 24)

set_option maxHeartbeats 4000000 in
set_option maxRecDepth 100000 in
theorem bel_path (B : Nat) (n x : N) (v : Value) (w : World) (hB : B ≤ w.heap.size) (hkd : n.kind.toList = [112, 97, 116, 104]) (h0 : n.kids = [x]) (hk : KidsAt (· < B) w v n.kids) :
    Calls Tryz.prog 23 #[n.val v] w (BelPost B w (here x ++ [litN n.text])) := by
  obtain ⟨b, o, cap, a2, cap2, rfl, hcap, hb0, c0, c1, c2, hV⟩ := hk.kid0 h0
  have hb : b < w.heap.size := Nat.lt_of_lt_of_le hb0 hB
  have hlen : n.kids.length = 1 := by rw [h0]; rfl
  rw [hlen] at hcap ⊢
  have BN : Blk (boxN w n (Value.slice (some ⟨b, o, none⟩) 1 cap)) w.heap.size 24 #[Value.string n.kind, Value.string n.text, Value.slice (some ⟨b, o, none⟩) 1 cap] := Blk.new w _ _
  have hbW : Below w.heap.size w (boxN w n (Value.slice (some ⟨b, o, none⟩) 1 cap)) := (Below.refl w.heap.size w).alloc (Nat.le_refl _) _
  have hsw : w.heap.size + 1 ≤ (boxN w n (Value.slice (some ⟨b, o, none⟩) 1 cap)).heap.size := by simp [boxN]
  have HV := Lib.hid hV
  have nb := World.new_ne w ⟨b, o, none⟩ c0
  have HC := Lib.hid (And.intro c0 (And.intro c1 c2))
  have HBN := Lib.hid BN
  have HBW := Lib.hid hbW
  clear hV hk h0 hlen BN hbW
  unfold N.val
  go_enter Tryz.func23, Tryz.ntmps23
  go_wp2_with fail
  simp only [boxN] at HBN HBW hsw
  generalize w.alloc (Obj.cells #[Value.string n.kind, Value.string n.text, Value.slice (some ⟨b, o, none⟩) 1 cap] 24) = w1 at HBN HBW hsw ⊢
  refine (missing_raw x a2 _ cap2 _ rfl).mono ?_
  rintro e w2 ⟨rfl, hb2⟩
  have hbx := HBW.out.trans (hb2.mono HBW.out.size)
  have s2 := hb2.size
  have BN2 := HBN.out.later hb2 (by omega)
  have e1 := BN2.cell 1 _ rfl
  have en := BN2.lt
  have c0 := (hbx.cell (p := ⟨b, o, none⟩) hb).trans HC.out.1
  have c1 := (hbx.cell (p := ⟨b, o + 1, none⟩) hb).trans HC.out.2.1
  have c2 := (hbx.cell (p := ⟨b, o + 2, none⟩) hb).trans HC.out.2.2
  have HOW : Hid (Own3 B w1 w2 (.slice none 0 0) []) := Lib.hid (.nil hb2 (by omega))
  have HBX := Lib.hid hbx
  have HB2 := Lib.hid BN2
  clear hb2 hbx BN2
  cases hm : missing x with
  | true =>
    have hh : here x = [] := by simp [here, hm]
    rw [hh]
    go_wp2_with fail
    refine (lit_raw _ _).mono ?_
    rintro e w3 ⟨rfl, hb3⟩
    have HO3 := Lib.hid (HOW.out.later hb3)
    clear hb3
    go_wp2_with (at_builtin; refine wpl_app_one rfl (.tmp 44) (.tmp 48) rfl (.slice none 0 0) [] rfl (litN n.text) (.slice none 0 0) rfl HO3.out (.nil none 0) (by simp) ?_; intro v4 w4 hO4)
    go_ret
    rw [hh]
    exact hO4.bel1 HBW.out
  | false =>
    have hh : here x = [x] := by simp [here, hm]
    rw [hh]
    have HVx := Lib.hid (HV.out.under (HBX.out.mono hB))
    go_wp2_with (at_builtin; refine wpl_app_one rfl (.tmp 38) (.tmp 42) rfl (.slice none 0 0) [] rfl x _ rfl HOW.out HVx.out (by simp) ?_; intro v4 w4 hO4; have e1 := ((HBN.out.later hO4.low (by omega))).cell 1 _ rfl; have en := (HBN.out.later hO4.low (by omega)).lt; have HO4 := Lib.hid hO4; clear hO4)
    refine (lit_raw _ _).mono ?_
    rintro e w5 ⟨rfl, hb5⟩
    have HO5 := Lib.hid (HO4.out.later hb5)
    clear hb5
    go_wp2_with (at_builtin; refine wpl_app_one rfl (.tmp 44) (.tmp 48) rfl v4 [x] rfl (litN n.text) (.slice none 0 0) rfl HO5.out (.nil none 0) (by simp) ?_; intro v6 w6 hO6)
    go_ret
    rw [hh]
    exact hO6.bel1 HBW.out
end Go.Proofs.YtpifflakohlglaaGreatFmt

/- What is proved here: spec.below, of a node of whatever kind. -/
namespace Go.Proofs.YtpifflakohlglaaGreatFmt
open Go.RowKit Go.Shelf
set_option linter.unusedVariables false
set_option linter.unusedSimpArgs false
attribute [local go_sem ↓] Go.wp_at_zero Go.wp_at_succ


set_option maxHeartbeats 4000000 in
set_option maxRecDepth 100000 in
theorem bel_plain (B : Nat) (n : N) (v : Value) (w : World) (hB : B ≤ w.heap.size) (h1 : (n.kind.toList == [102, 105, 101, 108, 100]) = false) (h2 : (n.kind.toList == [112, 97, 116, 104]) = false) (h3 : (n.kind.toList == [116, 121, 112, 101]) = false) (h4 : (n.kind.toList == [97, 108, 105, 97, 115]) = false) (h5 : (n.kind.toList == [115, 101, 108, 101, 99, 116]) = false) (h6 : (n.kind.toList == [102, 117, 110, 99]) = false)
    (hsz : N.sizes n.kids ≤ 1000000) (hk : KidsAt (· < B) w v n.kids) :
    Calls Tryz.prog 23 #[n.val v] w (BelPost B w (n.kids.flatMap flat)) := by
  obtain ⟨a, cap, rfl, hcap, _⟩ := hk.shape
  have hkl := N.len_le n.kids
  have hbW : Below w.heap.size w (boxN w n (.slice a n.kids.length cap)) := (Below.refl w.heap.size w).alloc (Nat.le_refl _) _
  have hsw : w.heap.size + 1 ≤ (boxN w n (.slice a n.kids.length cap)).heap.size := by simp [boxN]
  have HK := Lib.hid hk
  have HBW := Lib.hid hbW
  clear hk hbW
  unfold N.val
  go_enter Tryz.func23, Tryz.ntmps23
  go_wp2_with fail
  simp only [boxN] at HBW hsw
  generalize w.alloc (Obj.cells #[Value.string n.kind, Value.string n.text, .slice a n.kids.length cap] 24) = w1 at HBW hsw ⊢
  have hkn : n.kids.length ≤ 1000000 := by omega
  have HSZ := Lib.hid hsz
  clear hsz
  obtain ⟨aS, capS, hvS, hcapS, helS⟩ := HK.out.shape
  have HEL := Lib.hid helS
  simp only [Value.slice.injEq] at hvS
  obtain ⟨rfl, _, rfl⟩ := hvS
  clear helS
  go_loopw [92, 3] (fun vi out wr => ∃ j : Nat, j ≤ n.kids.length ∧ vi = .int .i64 j ∧ Own3 B w1 wr out ([] ++ ((n.kids).take j).flatMap flat)) (fun vi _ _ => n.kids.length - (intOf vi).toNat)
  case atStart => exact ⟨0, Nat.zero_le _, rfl, by simpa using (Own3.nil (Below.refl _ w1) (by omega) : Own3 B w1 w1 _ [])⟩
  case round =>
    obtain ⟨j, hj, rfl, hO⟩ := hrel
    have hsr : w1.heap.size ≤ wr.heap.size := hO.low.size
    have hbr := HBW.out.trans (hO.low.mono HBW.out.size)
    have hll : ([] ++ ((n.kids).take j).flatMap flat).length ≤ 1500000 := by
      have h1 := fm_len ((n.kids).take j)
      have h2 := sizes_take (n.kids) j
      have h3 := HSZ.out
      rw [List.length_append]
      simp only [List.length_cons, List.length_nil]
      omega
    have HLL := Lib.hid hll
    clear hll
    by_cases hjl : j < n.kids.length
    · have hjl' : (j : Int) < ((n.kids.length : Nat) : Int) := by omega
      obtain ⟨x, hget⟩ : ∃ x, (n.kids)[j]? = some x := ⟨_, List.getElem?_eq_getElem (by simpa using hjl)⟩
      obtain ⟨bb, oo, V, hae, hbb, c0, c1, c2, hV⟩ := HEL.out j _ hget
      have hstep := fm_take hget
      have hxlen := flat_len x
      have hxs := N.sizes_at hget
      have HSTEP := Lib.hid hstep
      clear hstep hget
      obtain rfl := hae
      obtain ⟨a2, cap2, rfl, _, _⟩ := hV.shape
      have hbw : bb < w.heap.size := Nat.lt_of_lt_of_le hbb hB
      have c0 := (hbr.cell (p := ⟨bb, oo + j * 3, none⟩) hbw).trans c0
      have c1 := (hbr.cell (p := ⟨bb, oo + j * 3 + 1, none⟩) hbw).trans c1
      have c2 := (hbr.cell (p := ⟨bb, oo + j * 3 + 2, none⟩) hbw).trans c2
      have hbx : Below wr.heap.size wr (boxN wr x (.slice a2 x.kids.length cap2)) := (Below.refl wr.heap.size wr).alloc (Nat.le_refl _) _
      have hbn : wr.heap.size + 1 ≤ (wr.alloc (Obj.cells #[Value.string x.kind, Value.string x.text, Value.slice a2 x.kids.length cap2] 24)).heap.size := by simp
      have HO := Lib.hid (hO.later hbx)
      have HV := Lib.hid (hV.under ((hbr.trans (hbx.mono (by omega))).mono hB))
      have BXN : Blk (boxN wr x (.slice a2 x.kids.length cap2)) wr.heap.size 24 #[Value.string x.kind, Value.string x.text, .slice a2 x.kids.length cap2] := Blk.new wr _ _
      have HBXN := Lib.hid BXN
      have HXS := Lib.hid (And.intro hxlen hxs)
      clear hV hbx hO BXN hbr hxlen hxs
      cases hl : (x.kind.toList == [108, 105, 115, 116]) with
      | true =>
        have hfl : flat x = x.kids := flat_list (by simp [isK, hl])
        have hml : x.kids.length ≤ 1500000 := by have := HXS.out.1; rw [hfl] at this; have := HXS.out.2; have := HSZ.out; omega
        rw [hfl] at HSTEP
        have HML := Lib.hid hml
        clear hfl hml
        go_wp2_with (at_builtin; refine wpl_app_kids rfl (.tmp 100) (.tmp 102) rfl _ _ x.kids rfl _ rfl HO.out HV.out (by have := HLL.out; have := HML.out; omega) ?_; intro v4 w4 hO4; have HO4 := Lib.hid hO4; clear hO4)
        go_roundw
        case rel => exact ⟨j + 1, by omega, by go_num, by rw [HSTEP.out, ← List.append_assoc]; exact HO4.out⟩
        case measure => simp [intOf]; omega
      | false =>
        have hl2 : isK x [108, 105, 115, 116] = false := hl
        go_wp2_with fail
        refine (missing_raw x a2 _ cap2 _ rfl).mono ?_
        rintro e w3 ⟨rfl, hb3⟩
        have HO3 := Lib.hid (HO.out.later hb3)
        have HV3 := Lib.hid (HV.out.under (hb3.mono (by omega)))
        have BX3 := HBXN.out.later hb3 (by omega)
        have d0 := BX3.cell 0 _ rfl
        have d1 := BX3.cell 1 _ rfl
        have d2 := BX3.cell 2 _ rfl
        have dn := BX3.lt
        clear hb3 BX3
        cases hm : missing x with
        | true =>
          have hfl : flat x = [] := flat_missing hm
          rw [hfl] at HSTEP
          clear hfl
          go_wp2_with fail
          go_roundw
          case rel => exact ⟨j + 1, by omega, by go_num, by rw [HSTEP.out, List.append_nil]; exact HO3.out⟩
          case measure => simp [intOf]; omega
        | false =>
          have hfl : flat x = [x] := by simp [flat, hl2, hm]
          rw [hfl] at HSTEP
          clear hfl
          go_wp2_with (at_builtin; refine wpl_app_one rfl (.tmp 108) (.tmp 110) rfl _ _ rfl x _ rfl HO3.out HV3.out (by have := HLL.out; omega) ?_; intro v4 w4 hO4; have HO4 := Lib.hid hO4; clear hO4)
          go_roundw
          case rel => exact ⟨j + 1, by omega, by go_num, by rw [HSTEP.out, ← List.append_assoc]; exact HO4.out⟩
          case measure => simp [intOf]; omega
    · have e : j = n.kids.length := by omega
      have HOE := Lib.hid hO
      clear hO hbr
      subst e
      go_wp2_with fail
      go_ret
      have hfin := HOE.out
      rw [show (n.kids).take (n.kids.length) = n.kids from List.take_of_length_le (Nat.le_refl _)] at hfin
      skip
      exact hfin.bel1 HBW.out
end Go.Proofs.YtpifflakohlglaaGreatFmt

