/- What is proved here: spec.Stacks, and the comparison of rows of texts. Conditions: each theorem names its own. -/
import Derived.Test.YtpifflakohlglaaGreatFmtMs
import Derived.Test.YtpifflakohlglaaGreatFmtMj
import Derived.Test.YtpifflakohlglaaGreatFmtMk
import Derived.Test.YtpifflakohlglaaGreatFmtMc
set_option linter.all false
set_option linter.unusedVariables false
set_option linter.unusedSimpArgs false
/- What is proved here: slices.Clone of texts. -/
namespace Go.Proofs.YtpifflakohlglaaGreatFmt
open Go.RowKit Go.Shelf
set_option linter.unusedVariables false
set_option linter.unusedSimpArgs false

theorem nilS_some (ad : Addr) (n c : Nat) (w : World) : (binOp .eql 33 (.slice (some ad) n c) (.slice none 0 0)).run Tryz.prog w = .ok (.bool false) w := by kernel_rfl
theorem nilS_none (n c : Nat) (w : World) : (binOp .eql 33 (.slice none n c) (.slice none 0 0)).run Tryz.prog w = .ok (.bool true) w := by kernel_rfl
theorem ownS_none (w : World) : (w.alloc (.cells #[] 9)).ownsRow w.heap.size 9 1 (.slice (some ⟨w.heap.size, 0, none⟩) 0 0) 0 [] :=
  ⟨rfl, .inr ⟨_, 0, #[], rfl, Nat.le_refl _, heap_alloc_new _ _, Nat.le_refl _, by decide, rfl, rfl⟩⟩
set_option maxHeartbeats 1000000 in
set_option maxRecDepth 100000 in
theorem cloneS_any (ups : List ByteArray) (v : Value) (w : World) (hn : ups.length ≤ 100000) (hv : RowAt w 1 v ups.length (fun i _ => Value.string (ups.getD i ⟨#[]⟩))) :
    Calls Tryz.prog 28 #[v] w fun e w' => ∃ v', e = .returned v' ∧ w'.ownsRow w.heap.size 9 1 v' ups.length (ups.map Value.string) ∧ Below w.heap.size w w' := by
  obtain ⟨a, cap, rfl, hel⟩ := hv
  obtain ⟨i0, hi, hz0, hz1, hz2⟩ := info_parts infoString
  have HI := Lib.hid (And.intro hi (And.intro hz0 (And.intro hz1 hz2)))
  have HO := Lib.hid (ownS_none w)
  have hB : Below w.heap.size w (w.alloc (.cells #[] 9)) := (Below.refl w.heap.size w).alloc (Nat.le_refl _) _
  have hN : ∀ j y, (ups.map Value.string)[j]? = some y → ∃ p, a = some p ∧ (w.alloc (.cells #[] 9)).cell? (p.add j) = some y := fun j y hj => by
    rw [List.getElem?_map] at hj
    cases hu : ups[j]? with
    | none => rw [hu] at hj; simp at hj
    | some s =>
      rw [hu] at hj
      simp only [Option.map_some, Option.some.injEq] at hj
      subst hj
      obtain ⟨b, o, e, hc⟩ := hel j (List.getElem?_eq_some_iff.1 hu).1
      refine ⟨_, e, ?_⟩
      have h0 := hc 0 (by omega)
      simp only [List.getD_eq_getElem?_getD, hu, Option.getD_some, Nat.mul_one, Nat.add_zero] at h0
      rw [add_off]
      exact cell_keep hB h0
  have HB := Lib.hid hB
  have HN := Lib.hid hN
  clear hi hz0 hz1 hz2 hB hN
  have e0 := nilS_none
  have e1 := nilS_some
  cases a with
  | none =>
    have h0 : ups = [] := by
      cases hks : ups with
      | nil => rfl
      | cons x r =>
        obtain ⟨b, o, hv, _⟩ := hel 0 (by rw [hks]; simp)
        simp at hv
    subst h0
    clear hel
    go_enter Tryz.func28, Tryz.ntmps28
    go_wp2_with fail
    go_ret
    exact ⟨_, rfl, ⟨rfl, .inl ⟨by simp, rfl⟩⟩, Below.refl _ _⟩
  | some ad =>
    clear hel
    go_enter Tryz.func28, Tryz.ntmps28
    go_wp2_with (at_builtin; refine wpl_app_row rfl (.tmp 5) (.tmp 6) 33 rfl w.heap.size 9 i0 (.string ⟨#[]⟩) 1 16 underStrings HI.out.1 HI.out.2.1 HI.out.2.2.1 HI.out.2.2.2 rfl (by decide) _ _ _ rfl HO.out (some ad) _ cap _ rfl (by simp) HN.out (ones_texts _) (by unfold maxLen; omega) (by omega) (by simp) ?_; intro v6 w6 hown6 hg6 hw6; have HR : Hid (w6.ownsRow w.heap.size 9 1 v6 ups.length (ups.map Value.string) ∧ Below w.heap.size w w6) := Lib.hid ⟨by simpa using hown6, HB.out.grown hg6 (by simp) (fun k hk => (HO.out.lt k hk).1)⟩; clear hown6 hg6 hw6)
    go_ret
    exact ⟨_, rfl, HR.out.1, HR.out.2⟩
end Go.Proofs.YtpifflakohlglaaGreatFmt

/- What is proved here: rows of texts as they read; slices.EqualFunc of rows by slices.Equal; Stacks as it reads. -/
namespace Go.Proofs.YtpifflakohlglaaGreatFmt
open Go.RowKit Go.Shelf
set_option linter.unusedVariables false
set_option linter.unusedSimpArgs false
attribute [local go_sem ↓] Go.wp_at_zero Go.wp_at_succ

/-- Rows of texts, as they read. -/
def RowsHold (w : World) (v : Value) (L : List (List ByteArray)) : Prop := ∃ a cap, v = .slice a L.length cap ∧ ∀ (i : Nat) (r : List ByteArray), L[i]? = some r → ∃ b o u, a = some ⟨b, o, none⟩ ∧ w.cell? ⟨b, o + i, none⟩ = some u ∧ RowAt w 1 u r.length (fun j _ => Value.string (r.getD j ⟨#[]⟩))
theorem RowsHold.below {w w' : World} {v : Value} {L : List (List ByteArray)} (h : RowsHold w v L) (hb : Below w.heap.size w w') : RowsHold w' v L := by
  obtain ⟨a, cap, h1, h2⟩ := h
  refine ⟨a, cap, h1, fun i r hi => ?_⟩
  obtain ⟨b, o, u, e, hc, hr⟩ := h2 i r hi
  exact ⟨b, o, u, e, cell_keep hb hc, hr.below hb⟩
theorem rows_hold {w : World} {base base' : Nat} {bad : Nat → Prop} {L : List (List ByteArray)} {u : Value} {us : List Value} (hown : w.ownsRow base 33 1 u L.length us) (h : RowsIn w base' bad L us) : RowsHold w u L := by
  obtain ⟨a, cap, e, hel⟩ := RowAt.of_owns hown
  refine ⟨a, cap, e, fun i r hi => ?_⟩
  obtain ⟨b, o, e1, hc⟩ := hel i (List.getElem?_eq_some_iff.1 hi).1
  obtain ⟨g, cp, h1, h2, _, _, _, h6⟩ := h.2 i r hi
  refine ⟨b, o, _, e1, ?_, ⟨_, cp, rfl, fun j hj => ⟨g, 0, rfl, fun x hx => ?_⟩⟩⟩
  · have h0 := hc 0 (by omega)
    simpa [List.getD_eq_getElem?_getD, h1] using h0
  · have hx0 : x = 0 := by omega
    subst hx0
    have h3 := h6 j r[j] (List.getElem?_eq_getElem hj)
    simpa [List.getD_eq_getElem?_getD, hj] using h3
theorem stacksH_any (n : N) (v : Value) (stop : ByteArray) (w : World) (hs : shapedB n = true) (hk : KidsAt (· < w.heap.size) w v n.kids) (hT : TokTab w) (h0 : 0 < w.heap.size) :
    Calls Tryz.prog 16 #[n.val v, .string stop] w fun e w' => ∃ u, e = .returned u ∧ RowsHold w' u (stacks stop.toList 400 [] n) ∧ Below w.heap.size w w' :=
  (stacks_any n v stop w hs hk hT h0).mono fun e w' ⟨u, us, bad, he, hown, hins, hb⟩ => ⟨u, he, rows_hold hown hins, hb⟩
set_option maxHeartbeats 1000000 in
set_option maxRecDepth 100000 in
theorem eq_rows (L : List (List ByteArray)) (v v' : Value) (w : World) (hn : L.length ≤ 100000) (hsh : ∀ r ∈ L, r.length ≤ 400) (h : RowsHold w v L) (h' : RowsHold w v' L) :
    Calls Tryz.prog 15 #[v, v', .func (.func 12) #[] #[]] w fun e w' => e = .returned (.bool true) ∧ ∃ q, w' = w.drewN q := by
  obtain ⟨a, cap, rfl, hel⟩ := h
  obtain ⟨a', cap', rfl, hel'⟩ := h'
  have H1 := Lib.hid hel
  have H2 := Lib.hid hel'
  have HSH := Lib.hid hsh
  have hen : Enters Tryz.prog 12 := enters_of Tryz.func12 (by kernel_rfl) rfl
  have hcf := fun args w => hen args w
  clear hel hel' hsh hen
  go_enter Tryz.func15, Tryz.ntmps15
  go_wp2_with fail
  go_loopw [17] (fun i wr => ∃ j q : Nat, j ≤ L.length ∧ i = .int .i64 j ∧ wr = w.drewN q) (fun i _ => L.length - (intOf i).toNat)
  case atStart => exact ⟨0, 0, Nat.zero_le _, rfl, rfl⟩
  case round =>
    obtain ⟨j, q, hj, rfl, rfl⟩ := hrel
    by_cases hjl : j < L.length
    · obtain ⟨r, hr⟩ : ∃ r, L[j]? = some r := ⟨_, List.getElem?_eq_getElem hjl⟩
      obtain ⟨b, o, u, rfl, g1, r1⟩ := H1.out j r hr
      obtain ⟨b', o', u', rfl, g2, r2⟩ := H2.out j r hr
      have hrl := HSH.out r (List.mem_of_getElem? hr)
      have HR := Lib.hid (And.intro r1 r2)
      clear r1 r2 hr
      go_wp2_with fail
      refine (eq_strings r.length _ _ _ _ (by omega) (HR.out.1.drewN _) (HR.out.2.drewN _)).mono ?_
      rintro e w5 ⟨rfl, q', rfl⟩
      go_wp2_with fail
      go_roundw
      case measure => simp [intOf]; omega
      case rel => exact ⟨j + 1, _, by omega, by go_num, rfl⟩
    · have e : j = L.length := by omega
      subst e
      go_wp2_with fail
      go_ret
      exact ⟨rfl, q, rfl⟩
end Go.Proofs.YtpifflakohlglaaGreatFmt

/- What is proved here: spec.Stacks of a declaration. -/
namespace Go.Proofs.YtpifflakohlglaaGreatFmt
open Go.RowKit Go.Shelf
set_option linter.unusedVariables false
set_option linter.unusedSimpArgs false

def SpecRows (w : World) (L : List (List ByteArray)) (e : Ending) (w' : World) : Prop := ∃ u us, e = .returned u ∧ w'.ownsRow w.heap.size 33 1 u L.length us ∧ RowsIn w' w.heap.size (fun g => u.ownBlock = some g) L us ∧ Below w.heap.size w w'
theorem ones_rows {w : World} {base : Nat} {bad : Nat → Prop} {L : List (List ByteArray)} {us : List Value} (h : RowsIn w base bad L us) : ∀ u ∈ us, u.oneCell' = true := by
  intro u hu
  obtain ⟨i, hi⟩ := List.mem_iff_getElem?.1 hu
  have hl : i < L.length := by rw [← h.1]; exact (List.getElem?_eq_some_iff.1 hi).1
  obtain ⟨g, cap, h1, _⟩ := h.2 i L[i] (List.getElem?_eq_getElem hl)
  rw [h1] at hi
  have := Option.some.inj hi
  subst this
  rfl
theorem RowsIn.app {w w' : World} {base lo : Nat} {L M : List (List ByteArray)} {us vs : List Value} {out out' : Value} {bad2 : Nat → Prop} (h1 : RowsIn w base (fun g => out.ownBlock = some g) L us) (h2 : RowsIn w lo bad2 M vs) (hlo : base ≤ lo) (hout : ∀ g, out.ownBlock = some g → g < lo)
    (hg : w.grownBy w' out.ownBlock) (hb : out'.ownBlock = out.ownBlock ∨ ∃ g, out'.ownBlock = some g ∧ w.heap.size ≤ g) : RowsIn w' base (fun g => out'.ownBlock = some g) (L ++ M) (us ++ vs) := by
  have key : ∀ g, g < w.heap.size → ¬ out.ownBlock = some g → w'.heap[g]? = w.heap[g]? ∧ ¬ out'.ownBlock = some g := by
    intro g hlt hne
    refine ⟨hg.block g hlt fun e => hne e.symm, fun e => ?_⟩
    rcases hb with hb | ⟨g', hb, hle⟩
    · exact hne (hb ▸ e)
    · rw [hb] at e
      have := Option.some.inj e
      omega
  refine ⟨by simp [h1.1, h2.1], fun i r hi => ?_⟩
  rw [List.getElem?_append] at hi
  split at hi
  · rename_i hlt
    obtain ⟨g, cap, k1, k2, k3, k4, k5, k6⟩ := h1.2 i r hi
    obtain ⟨e1, e2⟩ := key g k4 k5
    exact ⟨g, cap, by rw [List.getElem?_append_left (by rw [h1.1]; exact hlt)]; exact k1, k2, k3, Nat.lt_of_lt_of_le k4 hg.size, e2, fun j s hj => (World.cell?_of_block e1).trans (k6 j s hj)⟩
  · rename_i hge
    obtain ⟨g, cap, k1, k2, k3, k4, k5, k6⟩ := h2.2 _ r hi
    obtain ⟨e1, e2⟩ := key g k4 (fun e => by have := hout g e; omega)
    exact ⟨g, cap, by rw [List.getElem?_append_right (by rw [h1.1]; omega), h1.1]; exact k1, k2, by omega, Nat.lt_of_lt_of_le k4 hg.size, e2, fun j s hj => (World.cell?_of_block e1).trans (k6 j s hj)⟩
theorem RowAt.grown {w w' : World} {g7 n c : Nat} {row : Option Nat} {F : Nat → Nat → Value} (h : RowAt w 1 (.slice (some ⟨g7, 0, none⟩) n c) n F) (hg : w.grownBy w' row) (hne : ¬ row = some g7) : RowAt w' 1 (.slice (some ⟨g7, 0, none⟩) n c) n F := by
  obtain ⟨a, cap, e, h2⟩ := h
  simp only [Value.slice.injEq] at e
  obtain ⟨rfl, _, rfl⟩ := e
  refine ⟨_, _, rfl, fun i hi => ?_⟩
  obtain ⟨b, o, e, hc⟩ := h2 i hi
  simp only [Option.some.injEq, Addr.mk.injEq] at e
  obtain ⟨rfl, rfl, _⟩ := e
  exact ⟨_, _, rfl, fun j hj => hg.cell (hc j hj) (fun e => hne e.symm)⟩
theorem row_known {w : World} {base n : Nat} {v : Value} {L : List ByteArray} (h : w.ownsRow base 9 1 v n (L.map Value.string)) : RowAt w 1 v n (fun i _ => Value.string (L.getD i ⟨#[]⟩)) := by
  have hn : L.length = n := by have := h.1; simpa using this
  refine (RowAt.of_owns h).congr fun i j hi hj => ?_
  have hj0 : j = 0 := by omega
  subst hj0
  have hi' : i < L.length := by omega
  simp [List.getD_eq_getElem?_getD, hi']
set_option maxHeartbeats 8000000 in
set_option maxRecDepth 100000 in
theorem specStacks_any (stop : ByteArray) (f : Nat) (hf : f ≤ 400) : ∀ {C : Nat → Nat → Value → Prop} {n : N} {t b : Nat}, Rep C n (Nd t b) → n.size ≤ f → ∀ (ups : List ByteArray) (av v : Value) (w : World), ups.length + f ≤ 1000 → KidsAt (· < w.heap.size) w v n.kids → RowAt w 1 av ups.length (fun i _ => Value.string (ups.getD i ⟨#[]⟩)) →
    Calls Tryz.prog 17 #[n.val v, .string stop, av] w (SpecRows w (stacks stop.toList f ups n)) := by
  induction f with
  | zero => intro C n t b hR hn; have := N.size_eq n; omega
  | succ f ih =>
    intro C n t b hR hn ups av v w hul hk hav
    have hbr := hR.below_rep
    have hkl := kinds_le (f + 1) hR
    obtain ⟨i0, hi, hz0, hz1, hz2⟩ := info_parts infoString
    have HI0 := Lib.hid (And.intro hi (And.intro hz0 (And.intro hz1 hz2)))
    clear hi hz0 hz1 hz2
    obtain ⟨j0, hi, hz0, hz1, hz2⟩ := info_parts infoStrs
    have HJ0 := Lib.hid (And.intro hi (And.intro hz0 (And.intro hz1 hz2)))
    obtain ⟨a, cap, rfl, hcap, _⟩ := hk.shape
    have HIH := Lib.hid (fun (C : Nat → Nat → Value → Prop) (n : N) (t b : Nat) (hR : Rep C n (Nd t b)) => @ih (by omega) C n t b hR)
    have HR := Lib.hid hR
    have HK := Lib.hid hk
    have HBR := Lib.hid hbr
    have hes := stacks_le stop.toList (f + 1) ups n
    have HES := Lib.hid (show (stacks stop.toList (f + 1) ups n).length ≤ 4 * 400 by omega)
    have hbW : Below w.heap.size w (w.alloc (Obj.cells #[Value.string n.kind, Value.string n.text, .slice a n.kids.length cap] 24)) := (Below.refl w.heap.size w).alloc (Nat.le_refl _) (Obj.cells #[Value.string n.kind, Value.string n.text, .slice a n.kids.length cap] 24)
    have BN : Blk (w.alloc (Obj.cells #[Value.string n.kind, Value.string n.text, .slice a n.kids.length cap] 24)) w.heap.size 24 #[Value.string n.kind, Value.string n.text, .slice a n.kids.length cap] := Blk.new w _ 24
    have hsz1 : w.heap.size + 1 ≤ (w.alloc (Obj.cells #[Value.string n.kind, Value.string n.text, .slice a n.kids.length cap] 24)).heap.size := by simp
    have hsz2 : (w.alloc (Obj.cells #[Value.string n.kind, Value.string n.text, .slice a n.kids.length cap] 24)).heap.size ≤ w.heap.size + 1 := by simp
    have HBW := Lib.hid hbW
    have HBN := Lib.hid BN
    have n0 := BN.cell 0 _ rfl
    have n1 := BN.cell 1 _ rfl
    have n2 := BN.cell 2 _ rfl
    have nn := BN.lt
    have HAV := Lib.hid (hav.below hbW)
    clear hi hz0 hz1 hz2 ih hR hk hbr hkl hes hbW BN hav
    unfold N.val
    go_enter Tryz.func17, Tryz.ntmps17
    go_wp2_with fail
    generalize w.alloc (Obj.cells #[Value.string n.kind, Value.string n.text, .slice a n.kids.length cap] 24) = w1 at HBW HBN HAV hsz1 hsz2 n0 n1 n2 nn ⊢
    have HDR : Hid (Below w1.heap.size w1 w1.drew) := Lib.hid (Below.refl _ _).drew
    have HAL : Hid (Below w1.heap.size w1 (w1.drew.alloc (Obj.cells #[Value.string n.kind] 9))) := Lib.hid (HDR.out.trans ((Below.refl w1.heap.size w1.drew).alloc (Nat.le_refl _) (Obj.cells #[Value.string n.kind] 9)))
    have hw1 : w1.drew.heap.size = w1.heap.size := rfl
    go_region_law (first
      | (refine step_call (by rfl) 28 _ _ (by rfl) #[av] (by first | rfl | (simp [Act.eval]; done) | (simp [Act.eval, Act.put]; done)) (enters_of Tryz.func28 (by kernel_rfl) rfl) (cloneS_any ups av w1.drew (by omega) (HAV.out.below HDR.out)) ?_
         rintro e w5 ⟨v5, rfl, hown5, hb5⟩
         refine ⟨_, rfl, ?_⟩
         have hb05 : Below w1.heap.size w1 w5 := HDR.out.trans hb5
         have BN5 := HBN.out.later hb05 nn
         have d0 := BN5.cell 0 _ rfl
         have d1 := BN5.cell 1 _ rfl
         have d2 := BN5.cell 2 _ rfl
         have dn := BN5.lt
         have hs5 := hb05.size
         have HA5 : Hid (Below w1.heap.size w1 w5 ∧ w5.ownsRow w1.heap.size 9 1 v5 ups.length (ups.map Value.string)) := Lib.hid (And.intro hb05 hown5)
         clear hown5 hb5 hb05 BN5)
      | (refine step_call (by rfl) 28 _ _ (by rfl) #[av] (by first | rfl | (simp [Act.eval]; done) | (simp [Act.eval, Act.put]; done)) (enters_of Tryz.func28 (by kernel_rfl) rfl) (cloneS_any ups av (w1.drew.alloc (Obj.cells #[Value.string n.kind] 9)) (by omega) (HAV.out.below HAL.out)) ?_
         rintro e w5 ⟨v5, rfl, hown5, hb5⟩
         refine ⟨_, rfl, ?_⟩
         have hb05 : Below w1.heap.size w1 w5 := HAL.out.trans (hb5.mono (by simp))
         have hblk : w5.heap[w1.heap.size]? = some (.cells #[Value.string n.kind] 9 (0, 0)) := (hb5.block w1.heap.size (by simp)).trans (heap_alloc_new w1.drew _)
         have hs5 := hb05.size
         have hs5' := hb5.size
         simp at hs5'
         have HK5 := Lib.hid hblk
         have HA5 : Hid (Below w1.heap.size w1 w5 ∧ w5.ownsRow w1.heap.size 9 1 v5 ups.length (ups.map Value.string)) := Lib.hid (And.intro hb05 (own_mono hown5 (show w1.heap.size ≤ (w1.drew.alloc (Obj.cells #[Value.string n.kind] 9)).heap.size by simp)))
         clear hown5 hb5 hb05 hblk)
      | (refine step_append_lies _ (by rfl) _ _ _ (by rfl) w1.heap.size 9 i0 (.string ⟨#[]⟩) 1 16 underStrings HI0.out.1 HI0.out.2.1 HI0.out.2.2.1 HI0.out.2.2.2 rfl (by decide) v5 ups.length (ups.map Value.string) (by rfl) (HA5.out.2.alloc _) ⟨w5.heap.size, 0, none⟩ 1 1 [.string n.kind] (by rfl) rfl (World.news_of_block (heap_alloc_new w5 _)) (fun u hu => by simp at hu; subst hu; rfl) (by decide) (by unfold maxLen; omega) (by omega) (by first | omega | (simp; omega)) _ rfl ?_
         intro g7 c7 w7 hown7 hg7 _ _
         have hlow := (HA5.out.2.alloc (Obj.cells #[Value.string n.kind] 9)).lt
         have H7 : Hid (Below w1.heap.size w1 w7 ∧ w7.ownsRow w1.heap.size 9 1 (.slice (some ⟨g7, 0, none⟩) (ups.length + 1) c7) (ups.length + 1) ((ups ++ [n.kind]).map Value.string)) := Lib.hid ⟨(HA5.out.1.alloc (by omega) (Obj.cells #[Value.string n.kind] 9)).grown hg7 (by simp; omega) (fun k hk => (hlow k hk).1), by simpa using hown7⟩
         clear hown7 hg7 hlow)
      | (refine step_append_lies _ (by rfl) _ _ _ (by rfl) w1.heap.size 9 i0 (.string ⟨#[]⟩) 1 16 underStrings HI0.out.1 HI0.out.2.1 HI0.out.2.2.1 HI0.out.2.2.2 rfl (by decide) v5 ups.length (ups.map Value.string) (by rfl) HA5.out.2 ⟨w1.heap.size, 0, none⟩ 1 1 [.string n.kind] (by rfl) rfl (World.news_of_block HK5.out) (fun u hu => by simp at hu; subst hu; rfl) (by decide) (by unfold maxLen; omega) (by omega) (by first | omega | (simp; omega)) _ rfl ?_
         intro g7 c7 w7 hown7 hg7 _ _
         have hlow := HA5.out.2.lt
         have H7 : Hid (Below w1.heap.size w1 w7 ∧ w7.ownsRow w1.heap.size 9 1 (.slice (some ⟨g7, 0, none⟩) (ups.length + 1) c7) (ups.length + 1) ((ups ++ [n.kind]).map Value.string)) := Lib.hid ⟨HA5.out.1.grown hg7 (by omega) (fun k hk => (hlow k hk).1), by simpa using hown7⟩
         clear hown7 hg7 hlow))
    all_goals
      have hs7 := H7.out.1.size
      have hg7 := H7.out.2.lt g7 rfl
      have hc7 : ups.length + 1 ≤ c7 := by
        obtain ⟨ad, c', e, h1, _⟩ := owns_form H7.out.2
        simp only [Value.slice.injEq] at e
        obtain ⟨_, _, rfl⟩ := e
        exact h1
      have hal : Below w7.heap.size w7 (w7.alloc (Obj.cells #[(.slice (some ⟨g7, 0, none⟩) (ups.length + 1) c7)] 33)) := (Below.refl w7.heap.size w7).alloc (Nat.le_refl _) _
      have how := own_new1 w7 (.slice (some ⟨g7, 0, none⟩) (ups.length + 1) c7) 33 33 rfl
      have BN8 := (HBN.out.later H7.out.1 nn).later hal (by omega)
      have n0 := BN8.cell 0 _ rfl
      have n1 := BN8.cell 1 _ rfl
      have n2 := BN8.cell 2 _ rfl
      have nn8 := BN8.lt
      have hrow := row_known (owns_kept H7.out.2 hal)
      have hin : RowsIn (w7.alloc (Obj.cells #[(.slice (some ⟨g7, 0, none⟩) (ups.length + 1) c7)] 33)) w.heap.size (fun g => Value.ownBlock (.slice (some ⟨w7.heap.size, 0, none⟩) 1 1) = some g) [ups ++ [n.kind]] [(.slice (some ⟨g7, 0, none⟩) (ups.length + 1) c7)] := ⟨rfl, fun i r hi => by
        obtain rfl : i = 0 := by
          have := (List.getElem?_eq_some_iff.1 hi).1
          simp at this
          exact this
        simp at hi
        subst hi
        refine ⟨g7, c7, by simp, by simpa using hc7, by omega, by simp; omega, fun e => by simp [Value.ownBlock] at e; omega, fun j s hj => ?_⟩
        have hc := (H7.out.2.alloc (Obj.cells #[(.slice (some ⟨g7, 0, none⟩) (ups.length + 1) c7)] 33)).cells rfl j (.string s) (by rw [List.getElem?_map, hj]; rfl)
        have hadd : (⟨g7, 0, none⟩ : Addr).add j = ⟨g7, j, none⟩ := by unfold Addr.add; split <;> simp_all
        rwa [hadd] at hc⟩
      have H8 : Hid (Below w.heap.size w (w7.alloc (Obj.cells #[(.slice (some ⟨g7, 0, none⟩) (ups.length + 1) c7)] 33)) ∧ (w7.alloc (Obj.cells #[(.slice (some ⟨g7, 0, none⟩) (ups.length + 1) c7)] 33)).ownsRow w.heap.size 33 1 (.slice (some ⟨w7.heap.size, 0, none⟩) 1 1) 1 [(.slice (some ⟨g7, 0, none⟩) (ups.length + 1) c7)] ∧ RowsIn (w7.alloc (Obj.cells #[(.slice (some ⟨g7, 0, none⟩) (ups.length + 1) c7)] 33)) w.heap.size (fun g => Value.ownBlock (.slice (some ⟨w7.heap.size, 0, none⟩) 1 1) = some g) [ups ++ [n.kind]] [(.slice (some ⟨g7, 0, none⟩) (ups.length + 1) c7)] ∧ RowAt (w7.alloc (Obj.cells #[(.slice (some ⟨g7, 0, none⟩) (ups.length + 1) c7)] 33)) 1 (.slice (some ⟨g7, 0, none⟩) (ups.length + 1) c7) (ups.length + 1) (fun i _ => Value.string ((ups ++ [n.kind]).getD i ⟨#[]⟩))) :=
        Lib.hid ⟨HBW.out.trans ((H7.out.1.trans (hal.mono hs7)).mono (by omega)), own_mono how (by omega), hin, hrow⟩
      have hs8 : (w7.alloc (Obj.cells #[(.slice (some ⟨g7, 0, none⟩) (ups.length + 1) c7)] 33)).heap.size = w7.heap.size + 1 := by simp
      clear hal how BN8 hrow hin
      cases hst : (n.kind.toList == stop.toList) with
      | true =>
        have hev : stacks stop.toList (f + 1) ups n = [ups ++ [n.kind]] := by simp [stacks, hst]
        have HEV := Lib.hid hev
        clear hev
        go_wp2_with fail
        go_ret
        refine ⟨.slice (some ⟨w7.heap.size, 0, none⟩) 1 1, [(.slice (some ⟨g7, 0, none⟩) (ups.length + 1) c7)], rfl, ?_⟩
        rw [HEV.out]
        exact ⟨H8.out.2.1, H8.out.2.2.1, H8.out.1⟩
      | false =>
        have hev : stacks stop.toList (f + 1) ups n = (ups ++ [n.kind]) :: (subs n).flatMap (stacks stop.toList f (ups ++ [n.kind])) := by simp [stacks, hst]
        rw [hev] at HES
        have HEV := Lib.hid hev
        clear hev
        go_wp2_with fail
        generalize w7.alloc (Obj.cells #[(.slice (some ⟨g7, 0, none⟩) (ups.length + 1) c7)] 33) = w8 at H8 hs8 n0 n1 n2 nn8 ⊢
        refine (below_any HR.out (by omega) w.heap.size _ w8 (by omega) (HK.out.under H8.out.1)).mono ?_
        rintro e w3 ⟨kv, rfl, hb3, hkv⟩
        obtain ⟨ak, ck, rfl, hck, _⟩ := hkv.shape
        have hs3 := hb3.size
        have hlm : (subs n).length ≤ 1000000 := subs_len HR.out (by omega)
        have HREL : Hid ((RowRel (fun b => b < w.heap.size ∨ (w8.heap.size ≤ b ∧ b < w3.heap.size)) w w3.heap.size (.slice ak (subs n).length ck) (subs n) 33 1 ((ups ++ [n.kind]) :: ((subs n).take 0).flatMap (stacks stop.toList f (ups ++ [n.kind]))).length [(.slice (some ⟨g7, 0, none⟩) (ups.length + 1) c7)] (.slice (some ⟨w7.heap.size, 0, none⟩) 1 1) w3 ∧ RowsIn w3 w.heap.size (fun g => Value.ownBlock (.slice (some ⟨w7.heap.size, 0, none⟩) 1 1) = some g) ((ups ++ [n.kind]) :: ((subs n).take 0).flatMap (stacks stop.toList f (ups ++ [n.kind]))) [(.slice (some ⟨g7, 0, none⟩) (ups.length + 1) c7)] ∧ RowAt w3 1 (.slice (some ⟨g7, 0, none⟩) (ups.length + 1) c7) (ups.length + 1) (fun i _ => Value.string ((ups ++ [n.kind]).getD i ⟨#[]⟩)) ∧ (∀ g, Value.ownBlock (.slice (some ⟨w7.heap.size, 0, none⟩) 1 1) = some g → g ≠ g7))) := Lib.hid ⟨⟨by simpa using owns_kept H8.out.2.1 hb3, hkv, fun g hg hx => by
          simp [Value.ownBlock] at hg
          omega, H8.out.1.trans (hb3.mono (by omega)), Nat.le_refl _⟩, by
            have h := H8.out.2.2.1.keep (w' := w3) (bad' := fun g => Value.ownBlock (.slice (some ⟨w7.heap.size, 0, none⟩) 1 1) = some g) hb3.size (fun g _ hg hn => ⟨hb3.block g hg, hn⟩)
            simpa using h, H8.out.2.2.2.below hb3, fun g hg => by
            simp [Value.ownBlock] at hg
            omega⟩
        have hok : ∀ b, (b < w.heap.size ∨ (w8.heap.size ≤ b ∧ b < w3.heap.size)) → b < w3.heap.size := fun b hb => by omega
        have HOK := Lib.hid hok
        have hT : ∀ j, ((ups ++ [n.kind]) :: ((subs n).take j).flatMap (stacks stop.toList f (ups ++ [n.kind]))).length ≤ 1600 := fun j => by
          have h1 := fm_take_le (stacks stop.toList f (ups ++ [n.kind])) (subs n) j
          have h2 := HES.out
          simp only [List.length_cons] at h2 ⊢
          omega
        have HT := Lib.hid hT
        have hg3 : g7 < w3.heap.size := by omega
        clear hkv hb3 hok hT n0 n1 n2
        go_wp2_with fail
        go_loopw [27, 8] (fun vi out wr => ∃ (j : Nat) (us : List Value), j ≤ (subs n).length ∧ vi = .int .i64 j ∧ (RowRel (fun b => b < w.heap.size ∨ (w8.heap.size ≤ b ∧ b < w3.heap.size)) w w3.heap.size (.slice ak (subs n).length ck) (subs n) 33 1 ((ups ++ [n.kind]) :: ((subs n).take j).flatMap (stacks stop.toList f (ups ++ [n.kind]))).length us out wr ∧ RowsIn wr w.heap.size (fun g => Value.ownBlock out = some g) ((ups ++ [n.kind]) :: ((subs n).take j).flatMap (stacks stop.toList f (ups ++ [n.kind]))) us ∧ RowAt wr 1 (.slice (some ⟨g7, 0, none⟩) (ups.length + 1) c7) (ups.length + 1) (fun i _ => Value.string ((ups ++ [n.kind]).getD i ⟨#[]⟩)) ∧ (∀ g, Value.ownBlock out = some g → g ≠ g7))) (fun vi _ _ => (subs n).length - (intOf vi).toNat)
        case atStart => exact ⟨0, _, Nat.zero_le _, rfl, HREL.out⟩
        case round =>
          obtain ⟨j, us, hj, rfl, hrl, hri, hra, hrg⟩ := hrel
          have hsr : w3.heap.size ≤ wr.heap.size := hrl.hi
          by_cases hjl : j < (subs n).length
          · have hjl' : (j : Int) < (((subs n).length : Nat) : Int) := by omega
            obtain ⟨x, hget⟩ : ∃ x, (subs n)[j]? = some x := ⟨_, List.getElem?_eq_getElem hjl⟩
            obtain ⟨aS, capS, hvS, _, hel⟩ := hrl.kids.shape
            obtain ⟨bb, oo, V, hae, hbb, c0, c1, c2, hV⟩ := hel j _ hget
            simp only [Value.slice.injEq] at hvS
            obtain ⟨rfl, _, rfl⟩ := hvS
            obtain rfl := hae
            obtain ⟨hxs, tx, bx, hRx⟩ := HBR.out x (List.mem_of_getElem? hget)
            have hstep := take_fm (stacks stop.toList f (ups ++ [n.kind])) hget
            obtain ⟨ax, cx, rfl, _, _⟩ := hV.shape
            have hbx : Below wr.heap.size wr (wr.alloc (Obj.cells #[Value.string x.kind, Value.string x.text, Value.slice ax x.kids.length cx] 24)) := (Below.refl wr.heap.size wr).alloc (Nat.le_refl _) _
            have HRL := Lib.hid (And.intro (hrl.later HOK.out hbx) (And.intro (hri.keep (bad' := _) hbx.size (fun g _ hg hn => ⟨hbx.block g hg, hn⟩)) (And.intro (hra.below hbx) hrg)))
            have HOL := Lib.hid hrl.own.lt
            have HV := Lib.hid ((hV.mono fun b hb => Nat.lt_of_lt_of_le (HOK.out b hb) hsr).later hbx)
            have HXX := Lib.hid (And.intro hRx (show x.size ≤ f by omega))
            have hstl : ((ups ++ [n.kind]) :: ((subs n).take (j + 1)).flatMap (stacks stop.toList f (ups ++ [n.kind]))) = ((ups ++ [n.kind]) :: ((subs n).take j).flatMap (stacks stop.toList f (ups ++ [n.kind]))) ++ stacks stop.toList f (ups ++ [n.kind]) x := by rw [hstep]; rfl
            have HSTEP := Lib.hid hstl
            have HTJ := Lib.hid (And.intro (HT.out j) (HT.out (j + 1)))
            have hxn : (stacks stop.toList f (ups ++ [n.kind]) x).length ≤ 1600 := by
              have h1 := (HTJ.out).2
              rw [hstl, List.length_append] at h1
              omega
            have HXN := Lib.hid hxn
            clear hV hbx hrl hri hra hrg hRx hxs hstep hstl hel hget hxn
            go_wp2_with fail
            refine (HIH.out _ _ _ _ HXX.out.1 HXX.out.2 (ups ++ [n.kind]) (.slice (some ⟨g7, 0, none⟩) (ups.length + 1) c7) _ _ (by simp; omega) HV.out (by simpa using HRL.out.2.2.1)).mono ?_
            rintro e w5 ⟨v5, us5, rfl, hown5, hin5, hb5⟩
            have hri5 := HRL.out.2.1.keep (w' := w5) (bad' := _) hb5.size (fun g _ hg hn => ⟨hb5.block g hg, hn⟩)
            have HRL5 := Lib.hid (And.intro (HRL.out.1.later HOK.out hb5) (And.intro hri5 (And.intro (HRL.out.2.2.1.below hb5) HRL.out.2.2.2)))
            have hs5 := hb5.size
            simp only [World.size_alloc] at hs5
            obtain ⟨a5, c5, rfl, hn5⟩ := row_news hown5
            have HN5 := Lib.hid hn5
            have H5Z := Lib.hid hown5.1
            have HIN5 := Lib.hid hin5
            clear hb5 hown5 hn5 hri5 hin5
            go_wp2_with (at_builtin; refine wpl_app_row rfl (.tmp 31) (.tmp 35) 40 rfl w.heap.size 33 j0 (.slice none 0 0) 1 24 underRows HJ0.out.1 HJ0.out.2.1 HJ0.out.2.2.1 HJ0.out.2.2.2 rfl (by decide) _ _ _ rfl HRL5.out.1.own a5 _ c5 _ rfl H5Z.out HN5.out (ones_rows HIN5.out) (by have h1 := HTJ.out.1; have h2 := HXN.out; unfold maxLen; omega) (by have h1 := HTJ.out.1; have h2 := HXN.out; omega) HRL5.out.1.low.size ?_; intro v6 w6 hown6 hg6 hw6; have HRL6 := Lib.hid (And.intro (HRL5.out.1.app HOK.out hown6 hg6 hw6) (And.intro (RowsIn.app HRL5.out.2.1 HIN5.out (by have := HRL.out.1.low.size; simpa using this) (fun g hg => by have := (HOL.out g hg).2; simp; omega) hg6 hw6) (And.intro (HRL5.out.2.2.1.grown hg6 (fun e => HRL5.out.2.2.2 _ e rfl)) (show ∀ g, Value.ownBlock v6 = some g → g ≠ g7 from fun g hg e => by
              subst e
              rcases hw6 with h | ⟨g', h, hle⟩
              · exact HRL5.out.2.2.2 g (h ▸ hg) rfl
              · rw [h] at hg; have := Option.some.inj hg; omega)))); clear hown6 hg6 hw6)
            go_roundw
            case rel => exact ⟨j + 1, _, by omega, by go_num, by rw [HSTEP.out, List.length_append]; exact HRL6.out⟩
            case measure => simp [intOf]; omega
          · have e : j = (subs n).length := by omega
            have htk : (subs n).take j = subs n := List.take_of_length_le (by omega)
            rw [htk] at hrl hri
            have HRL := Lib.hid (And.intro hrl hri)
            clear hrl hri hra hrg htk
            subst e
            go_wp2_with fail
            go_ret
            refine ⟨u8, us, rfl, ?_⟩
            rw [HEV.out]
            exact ⟨HRL.out.1.own, HRL.out.2, HRL.out.1.low⟩
theorem specStacksH_any (stop : ByteArray) {C : Nat → Nat → Value → Prop} {n : N} {t b : Nat} (hR : Rep C n (Nd t b)) (hn : n.size ≤ 400) (v : Value) (w : World) (hk : KidsAt (· < w.heap.size) w v n.kids) :
    Calls Tryz.prog 17 #[n.val v, .string stop, .slice none 0 0] w fun e w' => ∃ u, e = .returned u ∧ Below w.heap.size w w' ∧ RowsHold w' u (stacks stop.toList 400 [] n) :=
  (specStacks_any stop 400 (Nat.le_refl _) hR hn [] (.slice none 0 0) v w (by simp) hk ⟨none, 0, rfl, fun i hi => absurd hi (by simp)⟩).mono fun e w' ⟨u, us, he, hown, hin, hb⟩ => ⟨u, he, hb, rows_hold hown hin⟩
end Go.Proofs.YtpifflakohlglaaGreatFmt

