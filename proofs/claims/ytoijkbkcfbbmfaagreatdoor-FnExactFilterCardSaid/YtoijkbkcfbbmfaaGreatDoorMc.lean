/- What is proved here: the builder of declarations, first part. Conditions: each theorem names its own. -/
import Derived.Deep.AppendLies
import Derived.Deep.RegionLaw
import Derived.WalkKit
import Derived.Shelf.Abstract
import Derived.Deep.DrawnRows
import Derived.Test.YtoijkbkcfbbmfaaGreatDoorMb
set_option linter.all false
set_option linter.unusedVariables false
set_option linter.unusedSimpArgs false
/- What is proved here: the builder's small functions make what they say, in new blocks alone. The builder has no places left: its slice is empty. -/
namespace Go.Proofs.YtoijkbkcfbbmfaaGreatDoor
open Go.RowKit Go.Shelf

/-- A builder without places. -/
structure Bd (w : World) (bb : Nat) : Prop where
  lt : bb < w.heap.size
  cell : ∃ a cap, w.cell? ⟨bb, 0, none⟩ = some (.slice a 0 cap)
theorem Bd.later {w w' : World} {bb : Nat} (h : Bd w bb) (hb : Below w.heap.size w w') : Bd w' bb := by
  obtain ⟨a, cap, hc⟩ := h.cell
  exact ⟨Nat.lt_of_lt_of_le h.lt hb.size, a, cap, (hb.cell (p := ⟨bb, 0, none⟩) h.lt).trans hc⟩

theorem next_any (bb : Nat) (w : World) (h : Bd w bb) : Calls Tryz.prog 33 #[Pt bb] w fun e w' => e = .returned (.int .i64 1) ∧ w' = w := by
  obtain ⟨a, cap, hc⟩ := h.cell
  clear h
  go_enter Tryz.func33, Tryz.ntmps33
  go_wp2_with fail
  go_ret
  exact ⟨rfl, rfl⟩

/-- What a call of the builder leaves: new blocks alone, in which the value reads as the tree. -/
def Made (w w' : World) (n : N) (v : Value) : Prop := Below w.heap.size w w' ∧ Rep (At (Bt w.heap.size w'.heap.size) w') n v

theorem ident_any (bb : Nat) (t : ByteArray) (w : World) (h : Bd w bb) : Calls Tryz.prog 36 #[Pt bb, .string t] w fun e w' => ∃ s, e = .returned (Pt s) ∧ Made w w' (identN t) (Nd 55 s) := by
  have H := Lib.hid h
  clear h
  go_enter Tryz.func36, Tryz.ntmps36
  go_wp2_with fail
  refine (next_any bb _ H.out).mono ?_
  rintro e w2 ⟨rfl, rfl⟩
  go_wp2_with fail
  go_ret
  refine ⟨_, rfl, (Below.refl _ _).alloc (Nat.le_refl _) _, .name _ _ (by simp [isK, identN, N.kind]) rfl ⟨⟨by simp, by simp⟩, by simp [identN, N.text]⟩⟩

theorem literal_any (bb : Nat) (t : ByteArray) (w : World) (h : Bd w bb) : Calls Tryz.prog 56 #[Pt bb, .string t] w fun e w' => ∃ s, e = .returned (Pt s) ∧ Made w w' (litN t) (Nd 97 s) := by
  have H := Lib.hid h
  clear h
  go_enter Tryz.func56, Tryz.ntmps56
  go_wp2_with fail
  refine (next_any bb _ H.out).mono ?_
  rintro e w2 ⟨rfl, rfl⟩
  go_wp2_with fail
  go_ret
  refine ⟨_, rfl, (Below.refl _ _).alloc (Nat.le_refl _) _, .literal _ _ (by simp [isK, litN, N.kind]) rfl ⟨⟨by simp, by simp⟩, by simp [litN, N.text]⟩⟩

theorem none_any (w : World) : Calls Tryz.prog 45 #[] w fun e w' => e = .returned (noneN.val (.slice none 0 0)) ∧ Below w.heap.size w w' := by
  go_enter Tryz.func45, Tryz.ntmps45
  go_wp2_with fail
  refine bodyPost_ret (v := noneN.val (.slice none 0 0)) (by simp [results, Tryz.f45, go_sem, noneN, N.val, N.kind, N.text]) rfl ?_
  exact ⟨rfl, (Below.refl _ _).alloc (Nat.le_refl _) _⟩

/-- A node below a node that has it. -/
theorem kid_any (n : N) (v : Value) (i : Nat) (x : N) (w : World) (hk : KidsAt (· < w.heap.size) w v n.kids) (hx : n.kids[i]? = some x) :
    Calls Tryz.prog 35 #[n.val v, .int .i64 i] w fun e w' => ∃ v2, e = .returned (x.val v2) ∧ Below w.heap.size w w' ∧ KidsAt (· < w'.heap.size) w' v2 x.kids := by
  obtain ⟨a, cap, rfl, hcap, hel⟩ := hk.shape
  obtain ⟨b, o, V, rfl, hb, c0, c1, c2, hV⟩ := hel i x hx
  have hi : i < n.kids.length := (List.getElem?_eq_some_iff.1 hx).1
  have hi' : (i : Int) < (n.kids.length : Int) := by omega
  obtain ⟨a2, cap2, rfl, _, _⟩ := hV.shape
  have HV := Lib.hid hV
  have HK := Lib.hid hk
  clear hV hk hel hx
  unfold N.val
  go_enter Tryz.func35, Tryz.ntmps35
  go_wp2_with fail
  refine bodyPost_ret (v := x.val (.slice a2 x.kids.length cap2)) (by simp [results, Tryz.f35, go_sem, N.val]) rfl ?_
  have hb2 := ((Below.refl w.heap.size w).alloc (Nat.le_refl _) (Obj.cells #[Value.string n.kind, Value.string n.text, Value.slice (some ⟨b, o, none⟩) n.kids.length cap] 24)).alloc (by simp) (Obj.cells #[Value.string x.kind, Value.string x.text, Value.slice a2 x.kids.length cap2] 24)
  exact ⟨_, rfl, hb2, HV.out.later hb2⟩
end Go.Proofs.YtoijkbkcfbbmfaaGreatDoor

/- What is proved here: what holds of a row of nodes that grows by append, and of the list that it ends as. No program is in sight. -/
namespace Go.Proofs.YtoijkbkcfbbmfaaGreatDoor
open Go.RowKit

/-- How a cell stands for a node: by a pointer to its block, or as an expression, or as a part of a declaration. -/
def ByPt (ty : Nat) (u r : Value) : Prop := ∃ s, u = Pt s ∧ r = Nd ty s
def ByE (u r : Value) : Prop := u = r ∧ isE r = true
def ByS (u r : Value) : Prop := u = r ∧ isS r = true
theorem all_new {w w' : World} (h : Below w.heap.size w w') (row : Option Nat) : w.grownBy w' row := ⟨h.os, h.tape, h.output, h.size, fun k hk _ => h.block k hk⟩
theorem owns_kept {w w' : World} {base e size n : Nat} {v : Value} {xs : List Value} (h : w.ownsRow base e size v n xs) (hb : Below w.heap.size w w') : w'.ownsRow base e size v n xs :=
  h.kept (all_new hb none) (by cases hv : v.ownBlock <;> simp)
/-- Some trees, and the cells that stand for them. -/
def Elems (C : Nat → Nat → Value → Prop) (E : Value → Value → Prop) (ks : List N) (L : List Value) : Prop := ∀ (i : Nat) (m : N) (u : Value), ks[i]? = some m → L[i]? = some u → ∃ r, E u r ∧ Rep C m r
theorem Elems.imp {C C' : Nat → Nat → Value → Prop} {E : Value → Value → Prop} {ks : List N} {L : List Value} (h : Elems C E ks L) (m : ∀ b o u, C b o u → C' b o u) : Elems C' E ks L := fun i k u hi hu => by
  obtain ⟨r, he, hr⟩ := h i k u hi hu
  exact ⟨r, he, hr.imp m⟩
theorem Elems.nil (C : Nat → Nat → Value → Prop) (E : Value → Value → Prop) (ks : List N) : Elems C E ks [] := fun i m u _ hu => by simp at hu
theorem Elems.snoc {C : Nat → Nat → Value → Prop} {E : Value → Value → Prop} {ks : List N} {L : List Value} {j : Nat} {m : N} {u r : Value} (h : Elems C E ks L) (hl : L.length = j) (hm : ks[j]? = some m) (he : E u r) (hr : Rep C m r) : Elems C E ks (L ++ [u]) := by
  intro i k x hi hx
  by_cases hij : i < L.length
  · rw [List.getElem?_append_left hij] at hx
    exact h i k x hi hx
  · rw [List.getElem?_append_right (by omega)] at hx
    have hi2 : i = j := by
      have := (List.getElem?_eq_some_iff.1 hx).1
      simp at this
      omega
    subst hi2
    subst hl
    simp at hx
    subst hx
    rw [hm] at hi
    cases hi
    exact ⟨r, he, hr⟩

/-- The blocks from one on, but for the row's own. -/
def Ex (v : Value) (lo hi b : Nat) : Prop := (lo ≤ b ∧ b < hi) ∧ v.ownBlock ≠ some b

theorem elems_step {E : Value → Value → Prop} {lo j n g cap : Nat} {ks : List N} {L : List Value} {v : Value} {wr w2 w1 : World} {m : N} {u r : Value} (hR : Elems (At (Ex v lo wr.heap.size) wr) E ks L) (hlo : lo ≤ wr.heap.size)
    (hown : ∀ k, v.ownBlock = some k → k < wr.heap.size) (hb : Below wr.heap.size wr w2) (hr : Rep (At (Bt wr.heap.size w2.heap.size) w2) m r) (hE : E u r) (hg : w2.grownBy w1 v.ownBlock) (hat : v.ownBlock = some g ∨ w2.heap.size ≤ g) (hj : L.length = j) (hm : ks[j]? = some m) :
    Elems (At (Ex (.slice (some ⟨g, 0, none⟩) n cap) lo w1.heap.size) w1) E ks (L ++ [u]) := by
  have hs := hb.size
  have hs1 := hg.size
  have key : ∀ b, b < w2.heap.size → v.ownBlock ≠ some b → (Value.slice (some ⟨g, 0, none⟩) n cap).ownBlock ≠ some b ∧ w1.heap[b]? = w2.heap[b]? := by
    intro b hlt hne
    refine ⟨?_, hg.block b hlt (fun h => hne h.symm)⟩
    simp only [Value.ownBlock]
    rcases hat with h | h
    · rw [← h]; exact hne
    · intro h'; cases h'; omega
  refine Elems.snoc (j := j) (r := r) ?_ hj hm hE ?_
  · refine hR.imp fun b o x hx => ?_
    obtain ⟨⟨⟨h1, h2⟩, h3⟩, h4⟩ := hx
    obtain ⟨k1, k2⟩ := key b (by omega) h3
    exact ⟨⟨⟨h1, by omega⟩, k1⟩, (World.cell?_of_block k2).trans ((World.cell?_of_block (hb.block b h2)).trans h4)⟩
  · refine hr.imp fun b o x hx => ?_
    obtain ⟨⟨h1, h2⟩, h4⟩ := hx
    obtain ⟨k1, k2⟩ := key b h2 (fun h => by have := hown b h; omega)
    exact ⟨⟨⟨by omega, by omega⟩, k1⟩, (World.cell?_of_block k2).trans h4⟩

theorem lat_of_owns {w : World} {base lo e n : Nat} {v : Value} {L : List Value} (h : w.ownsRow base e 1 v n L) (hlo : lo ≤ base) : LAt (At (Bt lo w.heap.size) w) v n (fun i => L.getD i .nilIface) := by
  have hlen : L.length = n := by simpa using h.1
  rcases h.2 with ⟨rfl, rfl⟩ | ⟨g, cap, cur, rfl, hb, hg, hcap, _⟩
  · exact ⟨none, 0, rfl, Nat.le_refl _, fun i hi => by omega⟩
  · refine ⟨_, cap, rfl, hcap, fun i hi => ⟨g, 0, rfl, ⟨⟨Nat.le_trans hlo hb, (Array.getElem?_eq_some_iff.1 hg).1⟩, ?_⟩⟩⟩
    have hi' : i < L.length := by omega
    have := h.cells (g := g) rfl i L[i] (List.getElem?_eq_getElem hi')
    rw [show (⟨g, 0, none⟩ : Addr).add i = ⟨g, 0 + i, none⟩ by unfold Addr.add; split <;> simp_all] at this
    rw [this]
    simp [List.getD, hi']
theorem Elems.ex {v : Value} {lo lo' hi : Nat} {w : World} {E : Value → Value → Prop} {ks : List N} {L : List Value} (h : Elems (At (Ex v lo hi) w) E ks L) (hl : lo' ≤ lo) : Elems (At (Bt lo' hi) w) E ks L :=
  h.imp fun _ _ _ hx => ⟨⟨Nat.le_trans hl hx.1.1.1, hx.1.1.2⟩, hx.2⟩
/-- The blocks of pointers. -/
def ptOf : Value → Nat
  | .pointer (some a) => a.block
  | _ => 0
theorem Elems.pts {C : Nat → Nat → Value → Prop} {ty : Nat} {ks : List N} {L : List Value} (h : Elems C (ByPt ty) ks L) (hl : ks.length ≤ L.length) : (∀ (i : Nat) (m : N), ks[i]? = some m → Rep C m (Nd ty (ptOf (L.getD i .nilIface)))) ∧ (∀ i, i < ks.length → L.getD i .nilIface = Pt (ptOf (L.getD i .nilIface))) := by
  have key : ∀ i m, ks[i]? = some m → ∃ s : Nat, L.getD i .nilIface = Pt s ∧ Rep C m (Nd ty s) := by
    intro i m hm
    have hi := (List.getElem?_eq_some_iff.1 hm).1
    have hi2 : i < L.length := by omega
    obtain ⟨r, ⟨s, h1, h2⟩, hr⟩ := h i m L[i] hm (List.getElem?_eq_getElem hi2)
    refine ⟨s, by simp [List.getD, hi2, h1], h2 ▸ hr⟩
  refine ⟨fun i m hm => ?_, fun i hi => ?_⟩
  · obtain ⟨s, h1, h2⟩ := key i m hm
    rw [h1]; exact h2
  · obtain ⟨s, h1, _⟩ := key i ks[i] (List.getElem?_eq_getElem hi)
    rw [h1]; rfl
theorem LAt.congr {C : Nat → Nat → Value → Prop} {v : Value} {n : Nat} {V V' : Nat → Value} (h : LAt C v n V) (he : ∀ i, i < n → V i = V' i) : LAt C v n V' := by
  obtain ⟨a, cap, hv, hc, hx⟩ := h
  refine ⟨a, cap, hv, hc, fun i hi => ?_⟩
  obtain ⟨b, o, ha, hb⟩ := hx i hi
  exact ⟨b, o, ha, he i hi ▸ hb⟩
theorem Elems.self {C : Nat → Nat → Value → Prop} {P : Value → Bool} {ks : List N} {L : List Value} (h : Elems C (fun u r => u = r ∧ P r = true) ks L) (hl : ks.length ≤ L.length) : ∀ i m, ks[i]? = some m → P (L.getD i .nilIface) = true ∧ Rep C m (L.getD i .nilIface) := by
  intro i m hm
  have hi := (List.getElem?_eq_some_iff.1 hm).1
  have hi2 : i < L.length := by omega
  obtain ⟨r, ⟨rfl, h2⟩, hr⟩ := h i m L[i] hm (List.getElem?_eq_getElem hi2)
  have : L.getD i .nilIface = L[i] := by simp [List.getD, hi2]
  rw [this]
  exact ⟨h2, hr⟩

theorem Rep.ident_inv {C : Nat → Nat → Value → Prop} {n : N} {s : Nat} (h : Rep C n (Nd 55 s)) : isK n [110, 97, 109, 101] = true ∧ n.kids = [] ∧ C s 1 (.string n.text) := by
  cases h with
  | name _ _ hk h0 c => exact ⟨hk, h0, c⟩
theorem Rep.ident_of {C : Nat → Nat → Value → Prop} {m : N} {s : Nat} (h : Rep C (identN m.text) (Nd 55 s)) (hm : isName m = true) : Rep C m (Nd 55 s) := by
  obtain ⟨_, _, hc⟩ := h.ident_inv
  simp only [isName, Bool.and_eq_true, beq_iff_eq, List.length_eq_zero_iff] at hm
  exact .name m s hm.1 hm.2 hc
end Go.Proofs.YtoijkbkcfbbmfaaGreatDoor

/- What is proved here: the builder's names. -/
namespace Go.Proofs.YtoijkbkcfbbmfaaGreatDoor
open Go.RowKit Go.Shelf

theorem under81 : Tryz.prog.underlying 102 = some (.slice 55) := by kernel_rfl
theorem info88 : (Tryz.prog.info? 55).map (fun i => (i.zero, i.size, i.bytes)) = some (some (.pointer none), 1, 8) := by kernel_rfl

/-- What is made of a list of nodes. -/
def MadeL (w w' : World) (E : Value → Value → Prop) (ks : List N) (r : Value) : Prop :=
  Below w.heap.size w w' ∧ ∃ L, L.length = ks.length ∧ LAt (At (Bt w.heap.size w'.heap.size) w') r ks.length (fun i => L.getD i .nilIface) ∧ Elems (At (Bt w.heap.size w'.heap.size) w') E ks L

/-- What is made of a list of nodes, in a row of its own. -/
def MadeO (w w' : World) (T : Nat) (E : Value → Value → Prop) (ks : List N) (r : Value) : Prop :=
  Below w.heap.size w w' ∧ ∃ L, w'.ownsRow w.heap.size T 1 r ks.length L ∧ Elems (At (Ex r w.heap.size w'.heap.size) w') E ks L
theorem MadeO.toL {w w' : World} {T : Nat} {E : Value → Value → Prop} {ks : List N} {r : Value} (h : MadeO w w' T E ks r) : MadeL w w' E ks r := by
  obtain ⟨hb, L, ho, hE⟩ := h
  exact ⟨hb, L, by simpa using ho.1, lat_of_owns ho (Nat.le_refl _), hE.ex (Nat.le_refl _)⟩

set_option maxHeartbeats 1000000 in
set_option maxRecDepth 100000 in
theorem names_own (bb : Nat) (ks : List N) (v : Value) (w : World) (hB : Bd w bb) (hk : KidsAt (· < w.heap.size) w v ks) (hl : ks.length ≤ 2147483647) (hn : ks.all isName = true) :
    Calls Tryz.prog 57 #[Pt bb, v] w fun e w' => ∃ r, e = .returned r ∧ MadeO w w' 55 (ByPt 55) ks r := by
  obtain ⟨i0, hi, hz0, hz1, hz2⟩ := info_parts info88
  obtain ⟨a, cap, rfl, hcap, hel⟩ := hk.shape
  have HI := Lib.hid (And.intro hi (And.intro hz0 (And.intro hz1 hz2)))
  have HBd := Lib.hid hB
  have HEL := Lib.hid hel
  have HN := Lib.hid hn
  clear hi hz0 hz1 hz2 hB hk hel hn
  go_enter Tryz.func57, Tryz.ntmps57
  go_wp2
  go_loopw [5, 10] (fun v i wr => ∃ (j : Nat) (L : List Value), j ≤ ks.length ∧ i = .int .i64 j ∧ wr.ownsRow w.heap.size 55 1 v j L ∧ Below w.heap.size w wr ∧ Elems (At (Ex v w.heap.size wr.heap.size) wr) (ByPt 55) ks L)
    (fun _ i _ => ks.length - (intOf i).toNat)
  case atStart => exact ⟨0, [], Nat.zero_le _, rfl, World.ownsRow_nil _ _ _ _, Below.refl _ _, Elems.nil _ _ _⟩
  case round =>
    obtain ⟨j, L, hj, rfl, hown, hbel, hE⟩ := hrel
    have HOWN := Lib.hid hown
    have HBEL := Lib.hid hbel
    have HE := Lib.hid hE
    clear hown hbel hE
    by_cases hjl : j < ks.length
    · have hjl' : (j : Int) < (ks.length : Int) := by omega
      obtain ⟨b, o, V, rfl, hb, c0, c1, c2, hV⟩ := HEL.out j ks[j] (List.getElem?_eq_getElem hjl)
      have c0 := (HBEL.out.cell (p := ⟨b, o + j * 3, none⟩) hb).trans c0
      have c1 := (HBEL.out.cell (p := ⟨b, o + j * 3 + 1, none⟩) hb).trans c1
      have c2 := (HBEL.out.cell (p := ⟨b, o + j * 3 + 2, none⟩) hb).trans c2
      obtain ⟨a2, cap2, rfl, _, _⟩ := hV.shape
      have HV := Lib.hid hV
      clear hV
      have hnm : isName ks[j] = true := List.all_eq_true.1 HN.out _ (List.getElem_mem hjl)
      have HNM := Lib.hid hnm
      clear hnm
      by_cases hj0 : 0 < j
      · have hj0' : (0 : Int) < (j : Int) := by omega
        go_wp2_with fail
        refine (next_any bb _ ((HBd.out.later HBEL.out).later ((Below.refl wr.heap.size wr).alloc (Nat.le_refl _) _))).mono ?_
        rintro e w2 ⟨rfl, rfl⟩
        go_wp2_with fail
        refine (ident_any bb ks[j].text _ ((HBd.out.later HBEL.out).later ((Below.refl wr.heap.size wr).alloc (Nat.le_refl _) _))).mono ?_
        rintro e w3 ⟨s, rfl, hb3, hr3⟩
        have hbA := ((Below.refl wr.heap.size wr).alloc (Nat.le_refl _) (Obj.cells #[Value.string ks[j].kind, Value.string ks[j].text, Value.slice a2 ks[j].kids.length cap2] 24)).trans (hb3.mono (by simp))
        have hs3 : wr.heap.size ≤ w3.heap.size := hbA.size
        have hown3 := owns_kept HOWN.out hbA
        have hr4 := hr3.ident_of HNM.out
        have hlow := HOWN.out.lt
        have hsw := HBEL.out.size
        have HBA := Lib.hid hbA
        have HOWN3 := Lib.hid hown3
        have HR3 := Lib.hid hr4
        have HLOW := Lib.hid hlow
        clear hbA hown3 hr3 hr4 hb3 hlow
        go_wp2_with (at_builtin; refine wpList_append_lies _ rfl (.tmp 19) (.tmp 24) 102 rfl w.heap.size 55 i0 (.pointer none) 1 8 under81 HI.out.1 HI.out.2.1 HI.out.2.2.1 HI.out.2.2.2 rfl (by decide) _ _ _ rfl (HOWN3.out.alloc _) ⟨w3.heap.size, 0, none⟩ 1 1 [Pt s] rfl rfl ?c1 ?c2 (by decide) ?c3 ?c4 ?c5 _ rfl ?_)
        case c1 => exact World.news_of_block (heap_alloc_new _ _)
        case c2 => intro u hu; simp at hu; subst hu; rfl
        case c3 => unfold maxLen; omega
        case c4 => omega
        case c5 => simp; omega
        intro g cap' w5 hown5 hgrow5 hat5 hlt5
        have hbC := HBA.out.alloc hs3 (.cells #[Pt s] 55)
        have hE5 := elems_step (n := j + 1) (cap := cap') HE.out hsw (fun k hk => (HLOW.out k hk).2) hbC (HR3.out.beneath ((Below.refl w3.heap.size w3).alloc (Nat.le_refl _) (.cells #[Pt s] 55)) (by simp) (Nat.le_refl _) (by simp)) ⟨s, rfl, rfl⟩ hgrow5 (hat5.imp id (fun h => by simp; omega)) (by simpa using HOWN3.out.1) (List.getElem?_eq_getElem hjl)
        have hb5 := (HBEL.out.trans (hbC.mono hsw)).grown hgrow5 (by simp; omega) (fun k hk => (HLOW.out k hk).1)
        have HE5 := Lib.hid hE5
        have HB5 := Lib.hid hb5
        have HO5 := Lib.hid hown5
        clear hE5 hb5 hown5 hgrow5 hat5 hbC
        go_wp2_with fail
        go_roundw
        case rel => exact ⟨j + 1, L ++ [Pt s], by omega, by go_num, HO5.out, HB5.out, HE5.out⟩
        case measure => simp [intOf]; omega
      · have hj0' : ¬ (0 : Int) < (j : Int) := by omega
        go_wp2_with fail
        refine (ident_any bb ks[j].text _ ((HBd.out.later HBEL.out).later ((Below.refl wr.heap.size wr).alloc (Nat.le_refl _) _))).mono ?_
        rintro e w3 ⟨s, rfl, hb3, hr3⟩
        have hbA := ((Below.refl wr.heap.size wr).alloc (Nat.le_refl _) (Obj.cells #[Value.string ks[j].kind, Value.string ks[j].text, Value.slice a2 ks[j].kids.length cap2] 24)).trans (hb3.mono (by simp))
        have hs3 : wr.heap.size ≤ w3.heap.size := hbA.size
        have hown3 := owns_kept HOWN.out hbA
        have hr4 := hr3.ident_of HNM.out
        have hlow := HOWN.out.lt
        have hsw := HBEL.out.size
        have HBA := Lib.hid hbA
        have HOWN3 := Lib.hid hown3
        have HR3 := Lib.hid hr4
        have HLOW := Lib.hid hlow
        clear hbA hown3 hr3 hr4 hb3 hlow
        go_wp2_with (at_builtin; refine wpList_append_lies _ rfl (.tmp 19) (.tmp 24) 102 rfl w.heap.size 55 i0 (.pointer none) 1 8 under81 HI.out.1 HI.out.2.1 HI.out.2.2.1 HI.out.2.2.2 rfl (by decide) _ _ _ rfl (HOWN3.out.alloc _) ⟨w3.heap.size, 0, none⟩ 1 1 [Pt s] rfl rfl ?c1 ?c2 (by decide) ?c3 ?c4 ?c5 _ rfl ?_)
        case c1 => exact World.news_of_block (heap_alloc_new _ _)
        case c2 => intro u hu; simp at hu; subst hu; rfl
        case c3 => unfold maxLen; omega
        case c4 => omega
        case c5 => simp; omega
        intro g cap' w5 hown5 hgrow5 hat5 hlt5
        have hbC := HBA.out.alloc hs3 (.cells #[Pt s] 55)
        have hE5 := elems_step (n := j + 1) (cap := cap') HE.out hsw (fun k hk => (HLOW.out k hk).2) hbC (HR3.out.beneath ((Below.refl w3.heap.size w3).alloc (Nat.le_refl _) (.cells #[Pt s] 55)) (by simp) (Nat.le_refl _) (by simp)) ⟨s, rfl, rfl⟩ hgrow5 (hat5.imp id (fun h => by simp; omega)) (by simpa using HOWN3.out.1) (List.getElem?_eq_getElem hjl)
        have hb5 := (HBEL.out.trans (hbC.mono hsw)).grown hgrow5 (by simp; omega) (fun k hk => (HLOW.out k hk).1)
        have HE5 := Lib.hid hE5
        have HB5 := Lib.hid hb5
        have HO5 := Lib.hid hown5
        clear hE5 hb5 hown5 hgrow5 hat5 hbC
        go_wp2_with fail
        go_roundw
        case rel => exact ⟨j + 1, L ++ [Pt s], by omega, by go_num, HO5.out, HB5.out, HE5.out⟩
        case measure => simp [intOf]; omega
    · have hjl' : ¬ (j : Int) < (ks.length : Int) := by omega
      have hjj : j = ks.length := by omega
      subst hjj
      go_wp2_with fail
      go_ret
      exact ⟨_, rfl, HBEL.out, L, HOWN.out, HE.out⟩
theorem names_any (bb : Nat) (ks : List N) (v : Value) (w : World) (hB : Bd w bb) (hk : KidsAt (· < w.heap.size) w v ks) (hl : ks.length ≤ 2147483647) (hn : ks.all isName = true) :
    Calls Tryz.prog 57 #[Pt bb, v] w fun e w' => ∃ r, e = .returned r ∧ MadeL w w' (ByPt 55) ks r :=
  (names_own bb ks v w hB hk hl hn).mono fun e w' ⟨r, he, hm⟩ => ⟨r, he, hm.toL⟩
end Go.Proofs.YtoijkbkcfbbmfaaGreatDoor

/- What is proved here: the builder's fields. -/
namespace Go.Proofs.YtoijkbkcfbbmfaaGreatDoor
open Go.RowKit Go.Shelf

/-- A block known whole. -/
def Blk (w : World) (b t : Nat) (cs : Array Value) : Prop := w.heap[b]? = some (.cells cs t (0, 0))
theorem Blk.lt {w : World} {b t : Nat} {cs : Array Value} (h : Blk w b t cs) : b < w.heap.size := (Array.getElem?_eq_some_iff.1 h).1
theorem Blk.cell {w : World} {b t : Nat} {cs : Array Value} (h : Blk w b t cs) (i : Nat) (v : Value) (hv : cs[i]? = some v) : w.cell? ⟨b, i, none⟩ = some v := by simp [World.cell?, show w.heap[b]? = _ from h, hv]
theorem Blk.frozen {w : World} {b t : Nat} {cs : Array Value} (h : Blk w b t cs) (i : Nat) : w.frozen? ⟨b, i, none⟩ = false := by simp [World.frozen?, show w.heap[b]? = _ from h]
theorem Blk.new (w : World) (cs : Array Value) (t : Nat) : Blk (w.alloc (.cells cs t)) w.heap.size t cs := heap_alloc_new w _
theorem Blk.later {w w' : World} {b t B : Nat} {cs : Array Value} (h : Blk w b t cs) (hb : Below B w w') (hlt : b < B) : Blk w' b t cs := (hb.block b hlt).trans h
theorem Blk.set {w : World} {b t : Nat} {cs : Array Value} (h : Blk w b t cs) (i : Nat) (v : Value) : Blk (w.setCell ⟨b, i, none⟩ v) b t (cs.set! i v) := heap_setCell_same w b i cs t v h
theorem Blk.other {w : World} {b t : Nat} {cs : Array Value} (h : Blk w b t cs) (b' i : Nat) (v : Value) (hne : b ≠ b') : Blk (w.setCell ⟨b', i, none⟩ v) b t cs := (heap_setCell_other w _ b v hne).trans h

/-- What is known of the calls below. -/
def BE (f : Nat) : Prop := ∀ (n : N) (v : Value) (bb : Nat) (w : World), n.size ≤ 400 → shE f n = true → KidsAt (· < w.heap.size) w v n.kids → Bd w bb →
  Calls Tryz.prog 58 #[Pt bb, n.val v] w fun e w' => ∃ r, e = .returned r ∧ isE r = true ∧ Made w w' n r
def BS (f : Nat) : Prop := ∀ (n : N) (v : Value) (bb : Nat) (w : World), n.size ≤ 400 → isK n [115, 105, 103, 110, 97, 116, 117, 114, 101] = true → shE f n = true → KidsAt (· < w.heap.size) w v n.kids → Bd w bb →
  Calls Tryz.prog 37 #[Pt bb, n.val v, .int .i64 0] w fun e w' => ∃ s, e = .returned (Pt s) ∧ Made w w' n (Nd 58 s)

theorem MadeL.keep {w1 w2 : World} {lo lo' hi : Nat} {E : Value → Value → Prop} {r : Value} {ks : List N} {L : List Value} (h : LAt (At (Bt lo w1.heap.size) w1) r ks.length (fun i => L.getD i .nilIface) ∧ Elems (At (Bt lo w1.heap.size) w1) E ks L)
    (hs : ∀ b, lo ≤ b → b < w1.heap.size → lo' ≤ b ∧ b < hi ∧ w2.heap[b]? = w1.heap[b]?) : LAt (At (Bt lo' hi) w2) r ks.length (fun i => L.getD i .nilIface) ∧ Elems (At (Bt lo' hi) w2) E ks L := by
  have key : ∀ b o u, At (Bt lo w1.heap.size) w1 b o u → At (Bt lo' hi) w2 b o u := fun b o u hx => by
    obtain ⟨h1, h2, h3⟩ := hs b hx.1.1 hx.1.2
    exact ⟨⟨h1, h2⟩, (World.cell?_of_block h3).trans hx.2⟩
  exact ⟨h.1.map key, h.2.imp key⟩









theorem isE_form {C : Nat → Nat → Value → Prop} {n : N} {r : Value} (h : isE r = true) (hr : Rep C n r) : ∃ ty t, r = .iface ty (Pt t) := by
  cases hr <;> first | (simp [isE] at h; done) | exact ⟨_, _, rfl⟩
theorem missing_noneN : missing noneN = true := by simp [missing, isK, noneN, N.kind, N.text, N.kids]
/-- A field, its parts built. -/
theorem field_rep {w' : World} {lo hi : Nat} (n x : N) (r : List N) (b : Nat) (vl vx vt pt : Value) (L : List Value) (hL : L.length = r.length) (hkd : isK n [102, 105, 101, 108, 100] = true) (hx : n.kids = x :: r) (hB : Blk w' b 147 #[.pointer none, vl, vx, pt, .pointer none]) (hlo : lo ≤ b) (hb1 : b < b + 1) (hlo2 : lo ≤ b + 1)
    (hN : LAt (At (Bt (b + 1) hi) w') vl r.length (fun i => L.getD i .nilIface) ∧ Elems (At (Bt (b + 1) hi) w') (ByPt 55) r L) (he : isE vx = true) (hr : Rep (At (Bt (b + 1) hi) w') x vx) (hhi : hi = w'.heap.size) (ho : OPt 97 vt pt) (hT : Rep (At (Bt (b + 1) hi) w') (tagN n.text) vt) :
    Rep (At (Bt lo w'.heap.size) w') n (Nd 92 b) := by
  subst hhi
  have key : ∀ c o u, At (Bt (b + 1) w'.heap.size) w' c o u → At (Bt lo w'.heap.size) w' c o u := fun c o u hx => ⟨⟨Nat.le_trans hlo2 hx.1.1, hx.1.2⟩, hx.2⟩
  have hat : ∀ i u, (#[Value.pointer none, vl, vx, pt, .pointer none] : Array Value)[i]? = some u → At (Bt lo w'.heap.size) w' b i u := fun i u hu => ⟨⟨hlo, hB.lt⟩, hB.cell i u hu⟩
  obtain ⟨hp1, hp2⟩ := (hN.2.imp key).pts (by omega)
  exact .field n b x r vx (fun i => ptOf (L.getD i .nilIface)) vl vt pt hkd hx (hat 0 _ rfl) (hat 1 _ rfl) ((hN.1.map key).congr hp2) hp1 he (hat 2 _ rfl) (hr.imp key) (hat 3 _ rfl) ho (hT.imp key) (hat 4 _ rfl)

set_option maxHeartbeats 2000000 in
set_option maxRecDepth 100000 in
theorem field_names_sig (f : Nat) (hE : BE f) (hS : BS f) (m : Bool) (n x : N) (r : List N) (v : Value) (bb : Nat) (w : World) (hn : n.size ≤ 400) (hkd : isK n [102, 105, 101, 108, 100] = true) (hx : n.kids = x :: r) (hr : r.all isName = true) (hsx : shE f x = true)
    (hk : KidsAt (· < w.heap.size) w v n.kids) (hB : Bd w bb) (hr0 : 0 < r.length) (hm : m = true) (hsg : isK x [115, 105, 103, 110, 97, 116, 117, 114, 101] = true) :
    Calls Tryz.prog 55 #[Pt bb, n.val v, .bool m] w fun e w' => ∃ s, e = .returned (Pt s) ∧ Made w w' n (Nd 92 s) := by
  have hl : n.kids.length = r.length + 1 := by rw [hx]; rfl
  have hsz := N.len_lt n
  have hxs : x.size ≤ 400 := by have := N.size_kid (m := n) (n := x) (i := 0) (by rw [hx]; rfl); omega
  subst hm
  have hl2 : (1 : Int) < (n.kids.length : Int) := by omega
  have hl3 : 1 < n.kids.length := by omega
  have hl1 : 1 ≤ n.kids.length := by omega
  have hl4 : (1 : Int) ≤ (n.kids.length : Int) := by omega
  obtain ⟨b, o, cap, a2, cap2, rfl, hcap, hb, c0, c1, c2, hxk⟩ := hk.kid0 hx
  have hl5 : n.kids.length - 1 = r.length := by omega
  have hrl : r.length ≤ 400 := by omega
  have htail := hk.tail' hx (some ⟨b, o + 3, none⟩) (n.kids.length - 1) (cap - 1) hl5 (fun _ => rfl) (by omega)
  have hw0 := ((Below.refl w.heap.size w).alloc (Nat.le_refl _) (Obj.cells #[Value.string n.kind, Value.string n.text, Value.slice (some ⟨b, o, none⟩) n.kids.length cap] 24)).alloc (by simp) (Obj.cells #[Value.pointer none, Value.slice none 0 0, Value.nilIface, Value.pointer none, Value.pointer none] 147)
  have HT := Lib.hid (htail.later hw0)
  have HK := Lib.hid hk
  have HBd := Lib.hid hB
  have HW0 := Lib.hid hw0
  have HX := Lib.hid hx
  have HL := Lib.hid hl
  have HKD := Lib.hid hkd
  have HSX := Lib.hid hsx
  have bN0 : Blk ((w.alloc (Obj.cells #[Value.string n.kind, Value.string n.text, Value.slice (some ⟨b, o, none⟩) n.kids.length cap] 24)).alloc (Obj.cells #[Value.pointer none, Value.slice none 0 0, Value.nilIface, Value.pointer none, Value.pointer none] 147)) w.heap.size 24 #[Value.string n.kind, Value.string n.text, Value.slice (some ⟨b, o, none⟩) n.kids.length cap] := (Blk.new w _ 24).later ((Below.refl (w.heap.size + 1) _).alloc (by simp) _) (by omega)
  have bX0 : Blk ((w.alloc (Obj.cells #[Value.string n.kind, Value.string n.text, Value.slice (some ⟨b, o, none⟩) n.kids.length cap] 24)).alloc (Obj.cells #[Value.pointer none, Value.slice none 0 0, Value.nilIface, Value.pointer none, Value.pointer none] 147)) (w.heap.size + 1) 147 #[Value.pointer none, Value.slice none 0 0, Value.nilIface, Value.pointer none, Value.pointer none] := by simpa using Blk.new (w.alloc (Obj.cells #[Value.string n.kind, Value.string n.text, Value.slice (some ⟨b, o, none⟩) n.kids.length cap] 24)) #[Value.pointer none, Value.slice none 0 0, Value.nilIface, Value.pointer none, Value.pointer none] 147
  have BN0 := Lib.hid bN0
  have BX0 := Lib.hid bX0
  have HS := Lib.hid hS
  have HE := Lib.hid hE
  clear hl5 hw0 htail hk hB hxk hx hl hkd hsx bN0 bX0 hS hE
  unfold N.val
  go_enter Tryz.func55, Tryz.ntmps55
  go_wp2_with fail
  refine (names_any bb r _ _ (HBd.out.later HW0.out) HT.out (by omega) hr).mono ?_
  rintro e w2 ⟨vl, rfl, hb2, L, hL, hlat, hel⟩
  have hs2 := hb2.size
  obtain ⟨al, capl, hvl, _, _⟩ := id hlat
  subst hvl
  simp only [World.size_alloc] at hs2
  have bN2 := BN0.out.later hb2 (by simp; omega)
  have bX2 := BX0.out.later hb2 (by simp)
  have hNF := MadeL.keep (w2 := w2.setCell ⟨w.heap.size + 1, 1, none⟩ (.slice al r.length capl)) (lo' := w.heap.size + 2) (hi := w2.heap.size) ⟨hlat, hel⟩ (fun b h1 h2 => by
    simp only [World.size_alloc] at h1
    exact ⟨h1, h2, heap_setCell_other _ _ _ _ (by simp; omega)⟩)
  have hw2 := HW0.out.trans (hb2.mono (by simp; omega))
  have hw3 := hw2.setCell (p := ⟨w.heap.size + 1, 1, none⟩) (by simp) (.slice al r.length capl)
  have e0 := bN2.cell 0 _ rfl
  have e1 := bN2.cell 1 _ rfl
  have e2 := bN2.cell 2 _ rfl
  have x1 := bX2.cell 1 _ rfl
  have xf := bX2.frozen 1
  have bN3 := bN2.other (w.heap.size + 1) 1 (.slice al r.length capl) (by omega)
  have bX3 := bX2.set 1 (.slice al r.length capl)
  have NF := Lib.hid hNF
  have HW3 := Lib.hid hw3
  have BN3 := Lib.hid bN3
  have BX3 := Lib.hid bX3
  have HLL := Lib.hid hL
  clear hNF hw2 hw3 bN2 bX2 hb2 hlat hel bN3 bX3 hL
  go_wp2_with fail
  have hsW := HW3.out.size
  have hs22 : (w2.setCell ⟨w.heap.size + 1, 1, none⟩ (Value.slice al r.length capl)).heap.size = w2.heap.size := by simp
  rw [← hs22] at NF
  clear e0 e1 e2 x1 xf hs2 hs22
  generalize hg3 : w2.setCell ⟨w.heap.size + 1, 1, none⟩ (.slice al r.length capl) = W3 at *
  clear hg3
  refine (kid_any n _ 0 x _ (HK.out.later HW3.out) (by rw [HX.out]; rfl)).mono ?_
  rintro e w4 ⟨v2, rfl, hb4, hk4⟩
  have hs4 := hb4.size
  have hlt3 := BX3.out.lt
  have BN4 := Lib.hid (BN3.out.later hb4 (by omega))
  have BX4 := Lib.hid (BX3.out.later hb4 BX3.out.lt)
  have hlt4 := BX4.out.lt
  have HW4 := Lib.hid (HW3.out.trans (hb4.mono hsW))
  have NF4 := Lib.hid (MadeL.keep (w2 := w4) (lo' := w.heap.size + 2) (hi := w4.heap.size) NF.out (fun b h1 h2 => ⟨h1, by omega, hb4.block b h2⟩))
  have HK4 := Lib.hid hk4
  clear hb4 hk4 NF
  go_wp2_with fail
  refine (HS.out x v2 bb _ hxs hsg HSX.out HK4.out (HBd.out.later HW4.out)).mono ?_
  rintro e w5 ⟨t, rfl, hb5, hr5⟩
  have hs5 := hb5.size
  have BN5 := Lib.hid (BN4.out.later hb5 (by omega))
  have BX5 := Lib.hid (BX4.out.later hb5 BX4.out.lt)
  have HW5 := Lib.hid (HW4.out.trans (hb5.mono HW4.out.size))
  have NF5 := Lib.hid (MadeL.keep (w2 := w5) (lo' := w.heap.size + 2) (hi := w5.heap.size) NF4.out (fun b h1 h2 => ⟨h1, by omega, hb5.block b h2⟩))
  have HR5 := Lib.hid (hr5.wide (lo' := w.heap.size + 2) (hi' := w5.heap.size) (by have := BX4.out.lt; omega) (Nat.le_refl _))
  have e0 := BN5.out.cell 0 _ rfl
  have e1 := BN5.out.cell 1 _ rfl
  have e2 := BN5.out.cell 2 _ rfl
  have x2 := BX5.out.cell 2 _ rfl
  have xf := BX5.out.frozen 2
  have BX6 := Lib.hid (BX5.out.set 2 (.iface 58 (Pt t)))
  have BN6 := Lib.hid (BN5.out.other (w.heap.size + 1) 2 (.iface 58 (Pt t)) (by omega))
  have HW6 := Lib.hid (HW5.out.setCell (p := ⟨w.heap.size + 1, 2, none⟩) (by simp) (.iface 58 (Pt t)))
  have hsx := BX5.out.lt
  have NF6 := Lib.hid (MadeL.keep (w2 := w5.setCell ⟨w.heap.size + 1, 2, none⟩ (.iface 58 (Pt t))) (lo' := w.heap.size + 2) (hi := w5.heap.size) NF5.out (fun b h1 h2 => ⟨h1, by omega, heap_setCell_other _ _ _ _ (by simp; omega)⟩))
  have HR6 := Lib.hid (HR5.out.step (ok' := Bt (w.heap.size + 2) w5.heap.size) (w' := w5.setCell ⟨w.heap.size + 1, 2, none⟩ (.iface 58 (Pt t))) (fun b hb => ⟨hb, heap_setCell_other _ _ _ _ (by have := hb.1; simp; omega)⟩))
  clear hb5 hr5 NF4 NF5
  cases hte : n.text.toList.isEmpty with
  | true =>
    go_wp2_with fail
    go_ret
    exact ⟨_, rfl, HW6.out, field_rep n x r _ _ _ _ _ L HLL.out HKD.out HX.out BX6.out (by omega) (by omega) (by omega) NF6.out rfl HR6.out (by simp) (.inl ⟨rfl, rfl⟩) (.none _ (by rw [show tagN n.text = noneN by simp [tagN, hte]]; exact missing_noneN))⟩
  | false =>
    go_wp2_with fail
    refine (literal_any bb n.text _ (HBd.out.later HW6.out)).mono ?_
    rintro e w7 ⟨g, rfl, hb7, hr7⟩
    have hs7 := hb7.size
    simp only [World.size_setCell] at hs7
    have BX7 := BX6.out.later hb7 BX6.out.lt
    have x3 := BX7.cell 3 _ rfl
    have xf3 := BX7.frozen 3
    have BX8 := Lib.hid (BX7.set 3 (Pt g))
    have hl7 := BX6.out.lt
    have HW8 := Lib.hid ((HW6.out.trans (hb7.mono HW6.out.size)).setCell (p := ⟨w.heap.size + 1, 3, none⟩) (by simp) (Pt g))
    have NF8 := Lib.hid (MadeL.keep (w1 := w5.setCell ⟨w.heap.size + 1, 2, none⟩ (.iface 58 (Pt t))) (w2 := w7.setCell ⟨w.heap.size + 1, 3, none⟩ (Pt g)) (lo' := w.heap.size + 2) (hi := w7.heap.size) (lo := w.heap.size + 2) (by simpa only [World.size_setCell] using NF6.out) (fun b h1 h2 => ⟨h1, by simp at h2; omega, (heap_setCell_other _ _ _ _ (by simp; omega)).trans (hb7.block b h2)⟩))
    have HR8 := Lib.hid (HR6.out.step (ok' := Bt (w.heap.size + 2) w7.heap.size) (w' := w7.setCell ⟨w.heap.size + 1, 3, none⟩ (Pt g)) (fun b hb => ⟨⟨hb.1, Nat.lt_of_lt_of_le hb.2 hs7⟩, (heap_setCell_other _ _ _ _ (by have := hb.1; simp; omega)).trans (hb7.block b (by simpa using hb.2))⟩))
    have HT8 := Lib.hid (hr7.step (ok' := Bt (w.heap.size + 2) w7.heap.size) (w' := w7.setCell ⟨w.heap.size + 1, 3, none⟩ (Pt g)) (fun b hb => ⟨⟨by have := hb.1; simp at this; omega, hb.2⟩, (heap_setCell_other _ _ _ _ (by have := hb.1; simp at this; simp; omega))⟩))
    clear hb7 hr7 BX7 NF6 HR6 HW6
    go_wp2_with fail
    go_ret
    exact ⟨_, rfl, HW8.out, field_rep n x r _ _ _ _ _ L HLL.out HKD.out HX.out BX8.out (by omega) (by omega) (by omega) NF8.out rfl HR8.out (by simp) (.inr ⟨g, rfl, rfl⟩) (by simpa [tagN, hte] using HT8.out)⟩

set_option maxHeartbeats 2000000 in
set_option maxRecDepth 100000 in
theorem field_names_expr (f : Nat) (hE : BE f) (hS : BS f) (m : Bool) (n x : N) (r : List N) (v : Value) (bb : Nat) (w : World) (hn : n.size ≤ 400) (hkd : isK n [102, 105, 101, 108, 100] = true) (hx : n.kids = x :: r) (hr : r.all isName = true) (hsx : shE f x = true)
    (hk : KidsAt (· < w.heap.size) w v n.kids) (hB : Bd w bb) (hr0 : 0 < r.length) (hm : m = false) :
    Calls Tryz.prog 55 #[Pt bb, n.val v, .bool m] w fun e w' => ∃ s, e = .returned (Pt s) ∧ Made w w' n (Nd 92 s) := by
  have hl : n.kids.length = r.length + 1 := by rw [hx]; rfl
  have hsz := N.len_lt n
  have hxs : x.size ≤ 400 := by have := N.size_kid (m := n) (n := x) (i := 0) (by rw [hx]; rfl); omega
  subst hm
  have hl2 : (1 : Int) < (n.kids.length : Int) := by omega
  have hl3 : 1 < n.kids.length := by omega
  have hl1 : 1 ≤ n.kids.length := by omega
  have hl4 : (1 : Int) ≤ (n.kids.length : Int) := by omega
  obtain ⟨b, o, cap, a2, cap2, rfl, hcap, hb, c0, c1, c2, hxk⟩ := hk.kid0 hx
  have hl5 : n.kids.length - 1 = r.length := by omega
  have hrl : r.length ≤ 400 := by omega
  have htail := hk.tail' hx (some ⟨b, o + 3, none⟩) (n.kids.length - 1) (cap - 1) hl5 (fun _ => rfl) (by omega)
  have hw0 := ((Below.refl w.heap.size w).alloc (Nat.le_refl _) (Obj.cells #[Value.string n.kind, Value.string n.text, Value.slice (some ⟨b, o, none⟩) n.kids.length cap] 24)).alloc (by simp) (Obj.cells #[Value.pointer none, Value.slice none 0 0, Value.nilIface, Value.pointer none, Value.pointer none] 147)
  have HT := Lib.hid (htail.later hw0)
  have HK := Lib.hid hk
  have HBd := Lib.hid hB
  have HW0 := Lib.hid hw0
  have HX := Lib.hid hx
  have HL := Lib.hid hl
  have HKD := Lib.hid hkd
  have HSX := Lib.hid hsx
  have bN0 : Blk ((w.alloc (Obj.cells #[Value.string n.kind, Value.string n.text, Value.slice (some ⟨b, o, none⟩) n.kids.length cap] 24)).alloc (Obj.cells #[Value.pointer none, Value.slice none 0 0, Value.nilIface, Value.pointer none, Value.pointer none] 147)) w.heap.size 24 #[Value.string n.kind, Value.string n.text, Value.slice (some ⟨b, o, none⟩) n.kids.length cap] := (Blk.new w _ 24).later ((Below.refl (w.heap.size + 1) _).alloc (by simp) _) (by omega)
  have bX0 : Blk ((w.alloc (Obj.cells #[Value.string n.kind, Value.string n.text, Value.slice (some ⟨b, o, none⟩) n.kids.length cap] 24)).alloc (Obj.cells #[Value.pointer none, Value.slice none 0 0, Value.nilIface, Value.pointer none, Value.pointer none] 147)) (w.heap.size + 1) 147 #[Value.pointer none, Value.slice none 0 0, Value.nilIface, Value.pointer none, Value.pointer none] := by simpa using Blk.new (w.alloc (Obj.cells #[Value.string n.kind, Value.string n.text, Value.slice (some ⟨b, o, none⟩) n.kids.length cap] 24)) #[Value.pointer none, Value.slice none 0 0, Value.nilIface, Value.pointer none, Value.pointer none] 147
  have BN0 := Lib.hid bN0
  have BX0 := Lib.hid bX0
  have HS := Lib.hid hS
  have HE := Lib.hid hE
  clear hl5 hw0 htail hk hB hxk hx hl hkd hsx bN0 bX0 hS hE
  unfold N.val
  go_enter Tryz.func55, Tryz.ntmps55
  go_wp2_with fail
  refine (names_any bb r _ _ (HBd.out.later HW0.out) HT.out (by omega) hr).mono ?_
  rintro e w2 ⟨vl, rfl, hb2, L, hL, hlat, hel⟩
  have hs2 := hb2.size
  obtain ⟨al, capl, hvl, _, _⟩ := id hlat
  subst hvl
  simp only [World.size_alloc] at hs2
  have bN2 := BN0.out.later hb2 (by simp; omega)
  have bX2 := BX0.out.later hb2 (by simp)
  have hNF := MadeL.keep (w2 := w2.setCell ⟨w.heap.size + 1, 1, none⟩ (.slice al r.length capl)) (lo' := w.heap.size + 2) (hi := w2.heap.size) ⟨hlat, hel⟩ (fun b h1 h2 => by
    simp only [World.size_alloc] at h1
    exact ⟨h1, h2, heap_setCell_other _ _ _ _ (by simp; omega)⟩)
  have hw2 := HW0.out.trans (hb2.mono (by simp; omega))
  have hw3 := hw2.setCell (p := ⟨w.heap.size + 1, 1, none⟩) (by simp) (.slice al r.length capl)
  have e0 := bN2.cell 0 _ rfl
  have e1 := bN2.cell 1 _ rfl
  have e2 := bN2.cell 2 _ rfl
  have x1 := bX2.cell 1 _ rfl
  have xf := bX2.frozen 1
  have bN3 := bN2.other (w.heap.size + 1) 1 (.slice al r.length capl) (by omega)
  have bX3 := bX2.set 1 (.slice al r.length capl)
  have NF := Lib.hid hNF
  have HW3 := Lib.hid hw3
  have BN3 := Lib.hid bN3
  have BX3 := Lib.hid bX3
  have HLL := Lib.hid hL
  clear hNF hw2 hw3 bN2 bX2 hb2 hlat hel bN3 bX3 hL
  go_wp2_with fail
  have hsW := HW3.out.size
  have hs22 : (w2.setCell ⟨w.heap.size + 1, 1, none⟩ (Value.slice al r.length capl)).heap.size = w2.heap.size := by simp
  rw [← hs22] at NF
  clear e0 e1 e2 x1 xf hs2 hs22
  generalize hg3 : w2.setCell ⟨w.heap.size + 1, 1, none⟩ (.slice al r.length capl) = W3 at *
  clear hg3
  refine (kid_any n _ 0 x _ (HK.out.later HW3.out) (by rw [HX.out]; rfl)).mono ?_
  rintro e w4 ⟨v2, rfl, hb4, hk4⟩
  have hs4 := hb4.size
  have hlt3 := BX3.out.lt
  have BN4 := Lib.hid (BN3.out.later hb4 (by omega))
  have BX4 := Lib.hid (BX3.out.later hb4 BX3.out.lt)
  have hlt4 := BX4.out.lt
  have HW4 := Lib.hid (HW3.out.trans (hb4.mono hsW))
  have NF4 := Lib.hid (MadeL.keep (w2 := w4) (lo' := w.heap.size + 2) (hi := w4.heap.size) NF.out (fun b h1 h2 => ⟨h1, by omega, hb4.block b h2⟩))
  have HK4 := Lib.hid hk4
  clear hb4 hk4 NF
  go_wp2_with fail
  refine (HE.out x v2 bb _ hxs HSX.out HK4.out (HBd.out.later HW4.out)).mono ?_
  rintro e w5 ⟨r5, rfl, he5, hb5, hr5⟩
  obtain ⟨ty, t, rfl⟩ := isE_form he5 hr5
  have hs5 := hb5.size
  have BN5 := Lib.hid (BN4.out.later hb5 (by omega))
  have BX5 := Lib.hid (BX4.out.later hb5 BX4.out.lt)
  have HW5 := Lib.hid (HW4.out.trans (hb5.mono HW4.out.size))
  have NF5 := Lib.hid (MadeL.keep (w2 := w5) (lo' := w.heap.size + 2) (hi := w5.heap.size) NF4.out (fun b h1 h2 => ⟨h1, by omega, hb5.block b h2⟩))
  have HR5 := Lib.hid (hr5.wide (lo' := w.heap.size + 2) (hi' := w5.heap.size) (by have := BX4.out.lt; omega) (Nat.le_refl _))
  have e0 := BN5.out.cell 0 _ rfl
  have e1 := BN5.out.cell 1 _ rfl
  have e2 := BN5.out.cell 2 _ rfl
  have x2 := BX5.out.cell 2 _ rfl
  have xf := BX5.out.frozen 2
  have BX6 := Lib.hid (BX5.out.set 2 (.iface ty (Pt t)))
  have BN6 := Lib.hid (BN5.out.other (w.heap.size + 1) 2 (.iface ty (Pt t)) (by omega))
  have HW6 := Lib.hid (HW5.out.setCell (p := ⟨w.heap.size + 1, 2, none⟩) (by simp) (.iface ty (Pt t)))
  have hsx := BX5.out.lt
  have NF6 := Lib.hid (MadeL.keep (w2 := w5.setCell ⟨w.heap.size + 1, 2, none⟩ (.iface ty (Pt t))) (lo' := w.heap.size + 2) (hi := w5.heap.size) NF5.out (fun b h1 h2 => ⟨h1, by omega, heap_setCell_other _ _ _ _ (by simp; omega)⟩))
  have HR6 := Lib.hid (HR5.out.step (ok' := Bt (w.heap.size + 2) w5.heap.size) (w' := w5.setCell ⟨w.heap.size + 1, 2, none⟩ (.iface ty (Pt t))) (fun b hb => ⟨hb, heap_setCell_other _ _ _ _ (by have := hb.1; simp; omega)⟩))
  clear hb5 hr5 NF4 NF5
  cases hte : n.text.toList.isEmpty with
  | true =>
    go_wp2_with fail
    go_ret
    exact ⟨_, rfl, HW6.out, field_rep n x r _ _ _ _ _ L HLL.out HKD.out HX.out BX6.out (by omega) (by omega) (by omega) NF6.out he5 HR6.out (by simp) (.inl ⟨rfl, rfl⟩) (.none _ (by rw [show tagN n.text = noneN by simp [tagN, hte]]; exact missing_noneN))⟩
  | false =>
    go_wp2_with fail
    refine (literal_any bb n.text _ (HBd.out.later HW6.out)).mono ?_
    rintro e w7 ⟨g, rfl, hb7, hr7⟩
    have hs7 := hb7.size
    simp only [World.size_setCell] at hs7
    have BX7 := BX6.out.later hb7 BX6.out.lt
    have x3 := BX7.cell 3 _ rfl
    have xf3 := BX7.frozen 3
    have BX8 := Lib.hid (BX7.set 3 (Pt g))
    have hl7 := BX6.out.lt
    have HW8 := Lib.hid ((HW6.out.trans (hb7.mono HW6.out.size)).setCell (p := ⟨w.heap.size + 1, 3, none⟩) (by simp) (Pt g))
    have NF8 := Lib.hid (MadeL.keep (w1 := w5.setCell ⟨w.heap.size + 1, 2, none⟩ (.iface ty (Pt t))) (w2 := w7.setCell ⟨w.heap.size + 1, 3, none⟩ (Pt g)) (lo' := w.heap.size + 2) (hi := w7.heap.size) (lo := w.heap.size + 2) (by simpa only [World.size_setCell] using NF6.out) (fun b h1 h2 => ⟨h1, by simp at h2; omega, (heap_setCell_other _ _ _ _ (by simp; omega)).trans (hb7.block b h2)⟩))
    have HR8 := Lib.hid (HR6.out.step (ok' := Bt (w.heap.size + 2) w7.heap.size) (w' := w7.setCell ⟨w.heap.size + 1, 3, none⟩ (Pt g)) (fun b hb => ⟨⟨hb.1, Nat.lt_of_lt_of_le hb.2 hs7⟩, (heap_setCell_other _ _ _ _ (by have := hb.1; simp; omega)).trans (hb7.block b (by simpa using hb.2))⟩))
    have HT8 := Lib.hid (hr7.step (ok' := Bt (w.heap.size + 2) w7.heap.size) (w' := w7.setCell ⟨w.heap.size + 1, 3, none⟩ (Pt g)) (fun b hb => ⟨⟨by have := hb.1; simp at this; omega, hb.2⟩, (heap_setCell_other _ _ _ _ (by have := hb.1; simp at this; simp; omega))⟩))
    clear hb7 hr7 BX7 NF6 HR6 HW6
    go_wp2_with fail
    go_ret
    exact ⟨_, rfl, HW8.out, field_rep n x r _ _ _ _ _ L HLL.out HKD.out HX.out BX8.out (by omega) (by omega) (by omega) NF8.out he5 HR8.out (by simp) (.inr ⟨g, rfl, rfl⟩) (by simpa [tagN, hte] using HT8.out)⟩

set_option maxHeartbeats 2000000 in
set_option maxRecDepth 100000 in
theorem field_plain_true (f : Nat) (hE : BE f) (hS : BS f) (m : Bool) (n x : N) (r : List N) (v : Value) (bb : Nat) (w : World) (hn : n.size ≤ 400) (hkd : isK n [102, 105, 101, 108, 100] = true) (hx : n.kids = x :: r) (hr : r.all isName = true) (hsx : shE f x = true)
    (hk : KidsAt (· < w.heap.size) w v n.kids) (hB : Bd w bb) (hr0 : r.length = 0) (hm : m = true) :
    Calls Tryz.prog 55 #[Pt bb, n.val v, .bool m] w fun e w' => ∃ s, e = .returned (Pt s) ∧ Made w w' n (Nd 92 s) := by
  have hl : n.kids.length = r.length + 1 := by rw [hx]; rfl
  have hsz := N.len_lt n
  have hxs : x.size ≤ 400 := by have := N.size_kid (m := n) (n := x) (i := 0) (by rw [hx]; rfl); omega
  subst hm
  have hr1 : n.kids.length = 1 := by rw [hl, hr0]
  have hl3 : ¬ (1 : Nat) < n.kids.length := by omega
  have hl2 : ¬ (1 : Int) < (n.kids.length : Int) := by omega
  obtain ⟨b, o, cap, a2, cap2, rfl, hcap, hb, c0, c1, c2, hxk⟩ := hk.kid0 hx
  have hw0 := ((Below.refl w.heap.size w).alloc (Nat.le_refl _) (Obj.cells #[Value.string n.kind, Value.string n.text, Value.slice (some ⟨b, o, none⟩) n.kids.length cap] 24)).alloc (by simp) (Obj.cells #[Value.pointer none, Value.slice none 0 0, Value.nilIface, Value.pointer none, Value.pointer none] 147)
  have HK := Lib.hid hk
  have HBd := Lib.hid hB
  have HW3 := Lib.hid hw0
  have HX := Lib.hid hx
  have HL := Lib.hid hl
  have HKD := Lib.hid hkd
  have HSX := Lib.hid hsx
  have bN0 : Blk ((w.alloc (Obj.cells #[Value.string n.kind, Value.string n.text, Value.slice (some ⟨b, o, none⟩) n.kids.length cap] 24)).alloc (Obj.cells #[Value.pointer none, Value.slice none 0 0, Value.nilIface, Value.pointer none, Value.pointer none] 147)) w.heap.size 24 #[Value.string n.kind, Value.string n.text, Value.slice (some ⟨b, o, none⟩) n.kids.length cap] := (Blk.new w _ 24).later ((Below.refl (w.heap.size + 1) _).alloc (by simp) _) (by omega)
  have bX0 : Blk ((w.alloc (Obj.cells #[Value.string n.kind, Value.string n.text, Value.slice (some ⟨b, o, none⟩) n.kids.length cap] 24)).alloc (Obj.cells #[Value.pointer none, Value.slice none 0 0, Value.nilIface, Value.pointer none, Value.pointer none] 147)) (w.heap.size + 1) 147 #[Value.pointer none, Value.slice none 0 0, Value.nilIface, Value.pointer none, Value.pointer none] := by simpa using Blk.new (w.alloc (Obj.cells #[Value.string n.kind, Value.string n.text, Value.slice (some ⟨b, o, none⟩) n.kids.length cap] 24)) #[Value.pointer none, Value.slice none 0 0, Value.nilIface, Value.pointer none, Value.pointer none] 147
  have BN3 := Lib.hid bN0
  have BX3 := Lib.hid bX0
  have HS := Lib.hid hS
  have HE := Lib.hid hE
  have HR1 := Lib.hid hr1
  have hrnil : r = [] := by cases r with | nil => rfl | cons _ _ => simp at hr0
  have hLL : ([] : List Value).length = r.length := by rw [hrnil]; rfl
  have HLL := Lib.hid hLL
  have hnf : LAt (At (Bt (w.heap.size + 2) ((w.alloc (Obj.cells #[Value.string n.kind, Value.string n.text, Value.slice (some ⟨b, o, none⟩) n.kids.length cap] 24)).alloc (Obj.cells #[Value.pointer none, Value.slice none 0 0, Value.nilIface, Value.pointer none, Value.pointer none] 147)).heap.size) ((w.alloc (Obj.cells #[Value.string n.kind, Value.string n.text, Value.slice (some ⟨b, o, none⟩) n.kids.length cap] 24)).alloc (Obj.cells #[Value.pointer none, Value.slice none 0 0, Value.nilIface, Value.pointer none, Value.pointer none] 147))) (.slice none 0 0) r.length (fun i => ([] : List Value).getD i .nilIface) ∧ Elems (At (Bt (w.heap.size + 2) ((w.alloc (Obj.cells #[Value.string n.kind, Value.string n.text, Value.slice (some ⟨b, o, none⟩) n.kids.length cap] 24)).alloc (Obj.cells #[Value.pointer none, Value.slice none 0 0, Value.nilIface, Value.pointer none, Value.pointer none] 147)).heap.size) ((w.alloc (Obj.cells #[Value.string n.kind, Value.string n.text, Value.slice (some ⟨b, o, none⟩) n.kids.length cap] 24)).alloc (Obj.cells #[Value.pointer none, Value.slice none 0 0, Value.nilIface, Value.pointer none, Value.pointer none] 147))) (ByPt 55) r [] := by
    rw [hrnil]
    exact ⟨⟨none, 0, rfl, Nat.le_refl _, fun i hi => by simp at hi⟩, Elems.nil _ _ _⟩
  have NF := Lib.hid hnf
  clear hr1 hw0 hk hB hxk hx hl hkd hsx bN0 bX0 hS hE hrnil hLL hnf hr0
  unfold N.val
  go_enter Tryz.func55, Tryz.ntmps55
  go_wp2_with fail
  generalize hg3 : (w.alloc (Obj.cells #[Value.string n.kind, Value.string n.text, Value.slice (some ⟨b, o, none⟩) n.kids.length cap] 24)).alloc (Obj.cells #[Value.pointer none, Value.slice none 0 0, Value.nilIface, Value.pointer none, Value.pointer none] 147) = W3 at *
  clear hg3
  have hsW := HW3.out.size
  refine (kid_any n _ 0 x _ (HK.out.later HW3.out) (by rw [HX.out]; rfl)).mono ?_
  rintro e w4 ⟨v2, rfl, hb4, hk4⟩
  have hs4 := hb4.size
  have hlt3 := BX3.out.lt
  have BN4 := Lib.hid (BN3.out.later hb4 (by omega))
  have BX4 := Lib.hid (BX3.out.later hb4 BX3.out.lt)
  have hlt4 := BX4.out.lt
  have HW4 := Lib.hid (HW3.out.trans (hb4.mono hsW))
  have NF4 := Lib.hid (MadeL.keep (w2 := w4) (lo' := w.heap.size + 2) (hi := w4.heap.size) NF.out (fun b h1 h2 => ⟨h1, by omega, hb4.block b h2⟩))
  have HK4 := Lib.hid hk4
  clear hb4 hk4 NF
  go_wp2_with fail
  refine (HE.out x v2 bb _ hxs HSX.out HK4.out (HBd.out.later HW4.out)).mono ?_
  rintro e w5 ⟨r5, rfl, he5, hb5, hr5⟩
  obtain ⟨ty, t, rfl⟩ := isE_form he5 hr5
  have hs5 := hb5.size
  have BN5 := Lib.hid (BN4.out.later hb5 (by omega))
  have BX5 := Lib.hid (BX4.out.later hb5 BX4.out.lt)
  have HW5 := Lib.hid (HW4.out.trans (hb5.mono HW4.out.size))
  have NF5 := Lib.hid (MadeL.keep (w2 := w5) (lo' := w.heap.size + 2) (hi := w5.heap.size) NF4.out (fun b h1 h2 => ⟨h1, by omega, hb5.block b h2⟩))
  have HR5 := Lib.hid (hr5.wide (lo' := w.heap.size + 2) (hi' := w5.heap.size) (by have := BX4.out.lt; omega) (Nat.le_refl _))
  have e0 := BN5.out.cell 0 _ rfl
  have e1 := BN5.out.cell 1 _ rfl
  have e2 := BN5.out.cell 2 _ rfl
  have x2 := BX5.out.cell 2 _ rfl
  have xf := BX5.out.frozen 2
  have BX6 := Lib.hid (BX5.out.set 2 (.iface ty (Pt t)))
  have BN6 := Lib.hid (BN5.out.other (w.heap.size + 1) 2 (.iface ty (Pt t)) (by omega))
  have HW6 := Lib.hid (HW5.out.setCell (p := ⟨w.heap.size + 1, 2, none⟩) (by simp) (.iface ty (Pt t)))
  have hsx := BX5.out.lt
  have NF6 := Lib.hid (MadeL.keep (w2 := w5.setCell ⟨w.heap.size + 1, 2, none⟩ (.iface ty (Pt t))) (lo' := w.heap.size + 2) (hi := w5.heap.size) NF5.out (fun b h1 h2 => ⟨h1, by omega, heap_setCell_other _ _ _ _ (by simp; omega)⟩))
  have HR6 := Lib.hid (HR5.out.step (ok' := Bt (w.heap.size + 2) w5.heap.size) (w' := w5.setCell ⟨w.heap.size + 1, 2, none⟩ (.iface ty (Pt t))) (fun b hb => ⟨hb, heap_setCell_other _ _ _ _ (by have := hb.1; simp; omega)⟩))
  clear hb5 hr5 NF4 NF5
  cases hte : n.text.toList.isEmpty with
  | true =>
    go_wp2_with fail
    go_ret
    exact ⟨_, rfl, HW6.out, field_rep n x r _ _ _ _ _ [] HLL.out HKD.out HX.out BX6.out (by omega) (by omega) (by omega) NF6.out he5 HR6.out (by simp) (.inl ⟨rfl, rfl⟩) (.none _ (by rw [show tagN n.text = noneN by simp [tagN, hte]]; exact missing_noneN))⟩
  | false =>
    go_wp2_with fail
    refine (literal_any bb n.text _ (HBd.out.later HW6.out)).mono ?_
    rintro e w7 ⟨g, rfl, hb7, hr7⟩
    have hs7 := hb7.size
    simp only [World.size_setCell] at hs7
    have BX7 := BX6.out.later hb7 BX6.out.lt
    have x3 := BX7.cell 3 _ rfl
    have xf3 := BX7.frozen 3
    have BX8 := Lib.hid (BX7.set 3 (Pt g))
    have hl7 := BX6.out.lt
    have HW8 := Lib.hid ((HW6.out.trans (hb7.mono HW6.out.size)).setCell (p := ⟨w.heap.size + 1, 3, none⟩) (by simp) (Pt g))
    have NF8 := Lib.hid (MadeL.keep (w1 := w5.setCell ⟨w.heap.size + 1, 2, none⟩ (.iface ty (Pt t))) (w2 := w7.setCell ⟨w.heap.size + 1, 3, none⟩ (Pt g)) (lo' := w.heap.size + 2) (hi := w7.heap.size) (lo := w.heap.size + 2) (by simpa only [World.size_setCell] using NF6.out) (fun b h1 h2 => ⟨h1, by simp at h2; omega, (heap_setCell_other _ _ _ _ (by simp; omega)).trans (hb7.block b h2)⟩))
    have HR8 := Lib.hid (HR6.out.step (ok' := Bt (w.heap.size + 2) w7.heap.size) (w' := w7.setCell ⟨w.heap.size + 1, 3, none⟩ (Pt g)) (fun b hb => ⟨⟨hb.1, Nat.lt_of_lt_of_le hb.2 hs7⟩, (heap_setCell_other _ _ _ _ (by have := hb.1; simp; omega)).trans (hb7.block b (by simpa using hb.2))⟩))
    have HT8 := Lib.hid (hr7.step (ok' := Bt (w.heap.size + 2) w7.heap.size) (w' := w7.setCell ⟨w.heap.size + 1, 3, none⟩ (Pt g)) (fun b hb => ⟨⟨by have := hb.1; simp at this; omega, hb.2⟩, (heap_setCell_other _ _ _ _ (by have := hb.1; simp at this; simp; omega))⟩))
    clear hb7 hr7 BX7 NF6 HR6 HW6
    go_wp2_with fail
    go_ret
    exact ⟨_, rfl, HW8.out, field_rep n x r _ _ _ _ _ [] HLL.out HKD.out HX.out BX8.out (by omega) (by omega) (by omega) NF8.out he5 HR8.out (by simp) (.inr ⟨g, rfl, rfl⟩) (by simpa [tagN, hte] using HT8.out)⟩

set_option maxHeartbeats 2000000 in
set_option maxRecDepth 100000 in
theorem field_plain_false (f : Nat) (hE : BE f) (hS : BS f) (m : Bool) (n x : N) (r : List N) (v : Value) (bb : Nat) (w : World) (hn : n.size ≤ 400) (hkd : isK n [102, 105, 101, 108, 100] = true) (hx : n.kids = x :: r) (hr : r.all isName = true) (hsx : shE f x = true)
    (hk : KidsAt (· < w.heap.size) w v n.kids) (hB : Bd w bb) (hr0 : r.length = 0) (hm : m = false) :
    Calls Tryz.prog 55 #[Pt bb, n.val v, .bool m] w fun e w' => ∃ s, e = .returned (Pt s) ∧ Made w w' n (Nd 92 s) := by
  have hl : n.kids.length = r.length + 1 := by rw [hx]; rfl
  have hsz := N.len_lt n
  have hxs : x.size ≤ 400 := by have := N.size_kid (m := n) (n := x) (i := 0) (by rw [hx]; rfl); omega
  subst hm
  have hr1 : n.kids.length = 1 := by rw [hl, hr0]
  have hl3 : ¬ (1 : Nat) < n.kids.length := by omega
  have hl2 : ¬ (1 : Int) < (n.kids.length : Int) := by omega
  obtain ⟨b, o, cap, a2, cap2, rfl, hcap, hb, c0, c1, c2, hxk⟩ := hk.kid0 hx
  have hw0 := ((Below.refl w.heap.size w).alloc (Nat.le_refl _) (Obj.cells #[Value.string n.kind, Value.string n.text, Value.slice (some ⟨b, o, none⟩) n.kids.length cap] 24)).alloc (by simp) (Obj.cells #[Value.pointer none, Value.slice none 0 0, Value.nilIface, Value.pointer none, Value.pointer none] 147)
  have HK := Lib.hid hk
  have HBd := Lib.hid hB
  have HW3 := Lib.hid hw0
  have HX := Lib.hid hx
  have HL := Lib.hid hl
  have HKD := Lib.hid hkd
  have HSX := Lib.hid hsx
  have bN0 : Blk ((w.alloc (Obj.cells #[Value.string n.kind, Value.string n.text, Value.slice (some ⟨b, o, none⟩) n.kids.length cap] 24)).alloc (Obj.cells #[Value.pointer none, Value.slice none 0 0, Value.nilIface, Value.pointer none, Value.pointer none] 147)) w.heap.size 24 #[Value.string n.kind, Value.string n.text, Value.slice (some ⟨b, o, none⟩) n.kids.length cap] := (Blk.new w _ 24).later ((Below.refl (w.heap.size + 1) _).alloc (by simp) _) (by omega)
  have bX0 : Blk ((w.alloc (Obj.cells #[Value.string n.kind, Value.string n.text, Value.slice (some ⟨b, o, none⟩) n.kids.length cap] 24)).alloc (Obj.cells #[Value.pointer none, Value.slice none 0 0, Value.nilIface, Value.pointer none, Value.pointer none] 147)) (w.heap.size + 1) 147 #[Value.pointer none, Value.slice none 0 0, Value.nilIface, Value.pointer none, Value.pointer none] := by simpa using Blk.new (w.alloc (Obj.cells #[Value.string n.kind, Value.string n.text, Value.slice (some ⟨b, o, none⟩) n.kids.length cap] 24)) #[Value.pointer none, Value.slice none 0 0, Value.nilIface, Value.pointer none, Value.pointer none] 147
  have BN3 := Lib.hid bN0
  have BX3 := Lib.hid bX0
  have HS := Lib.hid hS
  have HE := Lib.hid hE
  have HR1 := Lib.hid hr1
  have hrnil : r = [] := by cases r with | nil => rfl | cons _ _ => simp at hr0
  have hLL : ([] : List Value).length = r.length := by rw [hrnil]; rfl
  have HLL := Lib.hid hLL
  have hnf : LAt (At (Bt (w.heap.size + 2) ((w.alloc (Obj.cells #[Value.string n.kind, Value.string n.text, Value.slice (some ⟨b, o, none⟩) n.kids.length cap] 24)).alloc (Obj.cells #[Value.pointer none, Value.slice none 0 0, Value.nilIface, Value.pointer none, Value.pointer none] 147)).heap.size) ((w.alloc (Obj.cells #[Value.string n.kind, Value.string n.text, Value.slice (some ⟨b, o, none⟩) n.kids.length cap] 24)).alloc (Obj.cells #[Value.pointer none, Value.slice none 0 0, Value.nilIface, Value.pointer none, Value.pointer none] 147))) (.slice none 0 0) r.length (fun i => ([] : List Value).getD i .nilIface) ∧ Elems (At (Bt (w.heap.size + 2) ((w.alloc (Obj.cells #[Value.string n.kind, Value.string n.text, Value.slice (some ⟨b, o, none⟩) n.kids.length cap] 24)).alloc (Obj.cells #[Value.pointer none, Value.slice none 0 0, Value.nilIface, Value.pointer none, Value.pointer none] 147)).heap.size) ((w.alloc (Obj.cells #[Value.string n.kind, Value.string n.text, Value.slice (some ⟨b, o, none⟩) n.kids.length cap] 24)).alloc (Obj.cells #[Value.pointer none, Value.slice none 0 0, Value.nilIface, Value.pointer none, Value.pointer none] 147))) (ByPt 55) r [] := by
    rw [hrnil]
    exact ⟨⟨none, 0, rfl, Nat.le_refl _, fun i hi => by simp at hi⟩, Elems.nil _ _ _⟩
  have NF := Lib.hid hnf
  clear hr1 hw0 hk hB hxk hx hl hkd hsx bN0 bX0 hS hE hrnil hLL hnf hr0
  unfold N.val
  go_enter Tryz.func55, Tryz.ntmps55
  go_wp2_with fail
  generalize hg3 : (w.alloc (Obj.cells #[Value.string n.kind, Value.string n.text, Value.slice (some ⟨b, o, none⟩) n.kids.length cap] 24)).alloc (Obj.cells #[Value.pointer none, Value.slice none 0 0, Value.nilIface, Value.pointer none, Value.pointer none] 147) = W3 at *
  clear hg3
  have hsW := HW3.out.size
  refine (kid_any n _ 0 x _ (HK.out.later HW3.out) (by rw [HX.out]; rfl)).mono ?_
  rintro e w4 ⟨v2, rfl, hb4, hk4⟩
  have hs4 := hb4.size
  have hlt3 := BX3.out.lt
  have BN4 := Lib.hid (BN3.out.later hb4 (by omega))
  have BX4 := Lib.hid (BX3.out.later hb4 BX3.out.lt)
  have hlt4 := BX4.out.lt
  have HW4 := Lib.hid (HW3.out.trans (hb4.mono hsW))
  have NF4 := Lib.hid (MadeL.keep (w2 := w4) (lo' := w.heap.size + 2) (hi := w4.heap.size) NF.out (fun b h1 h2 => ⟨h1, by omega, hb4.block b h2⟩))
  have HK4 := Lib.hid hk4
  clear hb4 hk4 NF
  go_wp2_with fail
  refine (HE.out x v2 bb _ hxs HSX.out HK4.out (HBd.out.later HW4.out)).mono ?_
  rintro e w5 ⟨r5, rfl, he5, hb5, hr5⟩
  obtain ⟨ty, t, rfl⟩ := isE_form he5 hr5
  have hs5 := hb5.size
  have BN5 := Lib.hid (BN4.out.later hb5 (by omega))
  have BX5 := Lib.hid (BX4.out.later hb5 BX4.out.lt)
  have HW5 := Lib.hid (HW4.out.trans (hb5.mono HW4.out.size))
  have NF5 := Lib.hid (MadeL.keep (w2 := w5) (lo' := w.heap.size + 2) (hi := w5.heap.size) NF4.out (fun b h1 h2 => ⟨h1, by omega, hb5.block b h2⟩))
  have HR5 := Lib.hid (hr5.wide (lo' := w.heap.size + 2) (hi' := w5.heap.size) (by have := BX4.out.lt; omega) (Nat.le_refl _))
  have e0 := BN5.out.cell 0 _ rfl
  have e1 := BN5.out.cell 1 _ rfl
  have e2 := BN5.out.cell 2 _ rfl
  have x2 := BX5.out.cell 2 _ rfl
  have xf := BX5.out.frozen 2
  have BX6 := Lib.hid (BX5.out.set 2 (.iface ty (Pt t)))
  have BN6 := Lib.hid (BN5.out.other (w.heap.size + 1) 2 (.iface ty (Pt t)) (by omega))
  have HW6 := Lib.hid (HW5.out.setCell (p := ⟨w.heap.size + 1, 2, none⟩) (by simp) (.iface ty (Pt t)))
  have hsx := BX5.out.lt
  have NF6 := Lib.hid (MadeL.keep (w2 := w5.setCell ⟨w.heap.size + 1, 2, none⟩ (.iface ty (Pt t))) (lo' := w.heap.size + 2) (hi := w5.heap.size) NF5.out (fun b h1 h2 => ⟨h1, by omega, heap_setCell_other _ _ _ _ (by simp; omega)⟩))
  have HR6 := Lib.hid (HR5.out.step (ok' := Bt (w.heap.size + 2) w5.heap.size) (w' := w5.setCell ⟨w.heap.size + 1, 2, none⟩ (.iface ty (Pt t))) (fun b hb => ⟨hb, heap_setCell_other _ _ _ _ (by have := hb.1; simp; omega)⟩))
  clear hb5 hr5 NF4 NF5
  cases hte : n.text.toList.isEmpty with
  | true =>
    go_wp2_with fail
    go_ret
    exact ⟨_, rfl, HW6.out, field_rep n x r _ _ _ _ _ [] HLL.out HKD.out HX.out BX6.out (by omega) (by omega) (by omega) NF6.out he5 HR6.out (by simp) (.inl ⟨rfl, rfl⟩) (.none _ (by rw [show tagN n.text = noneN by simp [tagN, hte]]; exact missing_noneN))⟩
  | false =>
    go_wp2_with fail
    refine (literal_any bb n.text _ (HBd.out.later HW6.out)).mono ?_
    rintro e w7 ⟨g, rfl, hb7, hr7⟩
    have hs7 := hb7.size
    simp only [World.size_setCell] at hs7
    have BX7 := BX6.out.later hb7 BX6.out.lt
    have x3 := BX7.cell 3 _ rfl
    have xf3 := BX7.frozen 3
    have BX8 := Lib.hid (BX7.set 3 (Pt g))
    have hl7 := BX6.out.lt
    have HW8 := Lib.hid ((HW6.out.trans (hb7.mono HW6.out.size)).setCell (p := ⟨w.heap.size + 1, 3, none⟩) (by simp) (Pt g))
    have NF8 := Lib.hid (MadeL.keep (w1 := w5.setCell ⟨w.heap.size + 1, 2, none⟩ (.iface ty (Pt t))) (w2 := w7.setCell ⟨w.heap.size + 1, 3, none⟩ (Pt g)) (lo' := w.heap.size + 2) (hi := w7.heap.size) (lo := w.heap.size + 2) (by simpa only [World.size_setCell] using NF6.out) (fun b h1 h2 => ⟨h1, by simp at h2; omega, (heap_setCell_other _ _ _ _ (by simp; omega)).trans (hb7.block b h2)⟩))
    have HR8 := Lib.hid (HR6.out.step (ok' := Bt (w.heap.size + 2) w7.heap.size) (w' := w7.setCell ⟨w.heap.size + 1, 3, none⟩ (Pt g)) (fun b hb => ⟨⟨hb.1, Nat.lt_of_lt_of_le hb.2 hs7⟩, (heap_setCell_other _ _ _ _ (by have := hb.1; simp; omega)).trans (hb7.block b (by simpa using hb.2))⟩))
    have HT8 := Lib.hid (hr7.step (ok' := Bt (w.heap.size + 2) w7.heap.size) (w' := w7.setCell ⟨w.heap.size + 1, 3, none⟩ (Pt g)) (fun b hb => ⟨⟨by have := hb.1; simp at this; omega, hb.2⟩, (heap_setCell_other _ _ _ _ (by have := hb.1; simp at this; simp; omega))⟩))
    clear hb7 hr7 BX7 NF6 HR6 HW6
    go_wp2_with fail
    go_ret
    exact ⟨_, rfl, HW8.out, field_rep n x r _ _ _ _ _ [] HLL.out HKD.out HX.out BX8.out (by omega) (by omega) (by omega) NF8.out he5 HR8.out (by simp) (.inr ⟨g, rfl, rfl⟩) (by simpa [tagN, hte] using HT8.out)⟩
end Go.Proofs.YtoijkbkcfbbmfaaGreatDoor

/- What is proved here: a call of a function of the program as one step of a region that draws its order. No program is in sight. -/
namespace Go.Proofs.YtoijkbkcfbbmfaaGreatDoor
open Go Go.Shelf

theorem step_call {P : Program} {ops : Array Oper} {o : Oper} {a : Act} {w : World} {K : Act → World → Prop} {Q : Exit → Act → World → Prop} {E : Prop} (hgd : o.guard = none) (g : Nat) (xs : Array Operand) (ts : Array TypeId)
    (ho : o.op = .call { callee := .value (.func g), args := xs, argTypes := ts }) (args : Array Value) (hargs : (xs.map a.eval) = args) {post : Ending → World → Prop} (hen : Enters P g) (hc : Calls P g args w post)
    (hp : ∀ e w', post e w' → ∃ v, e = .returned v ∧ K (a.put o.dst v) w') :
    if Region.wanted o (yielded ops a.tmps) = true then Oper.wp P o a w K Q else E := by
  have hw : Region.wanted o (yielded ops a.tmps) = true := by simp [Region.wanted, hgd]
  rw [if_pos hw]
  unfold Oper.wp execOp
  have he := hen args w
  have hg : a.eval (.func g) = .func (.func g) #[] #[] := rfl
  simp only [ho, resolve, hg, invoke, hargs, Deferred.ofValue, Array.empty_append, Array.append_empty, Sem.run_bind, Sem.run_pure, Result.andThen_ok, he, Oper.upon_enter]
  refine hc.mono ?_
  intro e w' h
  obtain ⟨v, rfl, hk⟩ := hp e w' h
  exact hk
end Go.Proofs.YtoijkbkcfbbmfaaGreatDoor

/- What is proved here: the builder's lists of fields, parameters and signatures. -/
namespace Go.Proofs.YtoijkbkcfbbmfaaGreatDoor
open Go.RowKit Go.Shelf
attribute [local go_sem ↓] Go.wp_at_zero Go.wp_at_succ

theorem under91 : Tryz.prog.underlying 89 = some (.slice 92) := by kernel_rfl
theorem info80 : (Tryz.prog.info? 92).map (fun i => (i.zero, i.size, i.bytes)) = some (some (.pointer none), 1, 8) := by kernel_rfl

theorem Elems.set {E : Value → Value → Prop} {v : Value} {lo X i : Nat} {w : World} {u : Value} {ks : List N} {L : List Value} (h : Elems (At (Ex v lo w.heap.size) w) E ks L) (hX : X < lo) : Elems (At (Ex v lo (w.setCell ⟨X, i, none⟩ u).heap.size) (w.setCell ⟨X, i, none⟩ u)) E ks L :=
  h.imp fun b _ _ hx => ⟨⟨⟨hx.1.1.1, by simpa using hx.1.1.2⟩, hx.1.2⟩, (World.cell?_of_block (heap_setCell_other _ _ b _ (by have := hx.1.1.1; simp; omega))).trans hx.2⟩
/-- A list of fields, its parts built. -/
theorem fields_rep {w' : World} {lo : Nat} (n : N) (b : Nat) (vl : Value) (L : List Value) (a c : Value) (hkd : isK n [102, 105, 101, 108, 100, 115] = true) (ht : n.text.toList.isEmpty = true) (hB : Blk w' b 91 #[a, vl, c]) (hlo : lo ≤ b) (hown : w'.ownsRow (b + 1) 92 1 vl n.kids.length L) (hE : Elems (At (Ex vl (b + 1) w'.heap.size) w') (ByPt 92) n.kids L) :
    Rep (At (Bt lo w'.heap.size) w') n (Nd 52 b) := by
  have hl : L.length = n.kids.length := by simpa using hown.1
  obtain ⟨hp1, hp2⟩ := (hE.ex (lo' := lo) (by omega)).pts (by omega)
  exact .fields n b (fun i => ptOf (L.getD i .nilIface)) vl hkd ht ⟨⟨hlo, hB.lt⟩, hB.cell 1 _ rfl⟩ ((lat_of_owns hown (by omega)).congr hp2) hp1

theorem field_any {f : Nat} (hE : BE f) (hS : BS f) (m : Bool) (one : N → Bool) (hm : m = true → ∀ n, one n = true → methodB n = true) (n : N) (v : Value) (bb : Nat) (w : World) (hn : n.size ≤ 400) (hf : fieldB (shE f) one n = true)
    (hk : KidsAt (· < w.heap.size) w v n.kids) (hB : Bd w bb) : Calls Tryz.prog 55 #[Pt bb, n.val v, .bool m] w fun e w' => ∃ s, e = .returned (Pt s) ∧ Made w w' n (Nd 92 s) := by
  unfold fieldB at hf
  cases hx : n.kids with
  | nil => rw [hx] at hf; simp at hf
  | cons x r =>
    rw [hx] at hf
    simp only [Bool.and_eq_true] at hf
    obtain ⟨⟨⟨h1, h2⟩, h3⟩, h4⟩ := hf
    by_cases hr : r.length = 0
    · cases m with
      | true => exact field_plain_true f hE hS true n x r v bb w hn h1 hx h3 h2 hk hB hr rfl
      | false => exact field_plain_false f hE hS false n x r v bb w hn h1 hx h3 h2 hk hB hr rfl
    · have hr0 : 0 < r.length := by omega
      cases m with
      | false => exact field_names_expr f hE hS false n x r v bb w hn h1 hx h3 h2 hk hB hr0 rfl
      | true =>
        have hmb := hm rfl n h4
        unfold methodB at hmb
        rw [hx] at hmb
        have hsg : isK x [115, 105, 103, 110, 97, 116, 117, 114, 101] = true := by
          match r, hr0 with
          | [y], _ =>
            simp only [Bool.and_eq_true] at hmb
            have h5 := hmb.2
            simpa using h5
          | y :: z :: t, _ => simp at hmb
        exact field_names_sig f hE hS true n x r v bb w hn h1 hx h3 h2 hk hB hr0 rfl hsg

set_option maxHeartbeats 4000000 in
set_option maxRecDepth 100000 in
theorem fieldsIn_any {f : Nat} (hE : BE f) (hS : BS f) (m : Bool) (one : N → Bool) (hm : m = true → ∀ n, one n = true → methodB n = true) (n : N) (v : Value) (bb : Nat) (w : World) (hn : n.size ≤ 400) (hf : shF (shE f) one n = true)
    (hk : KidsAt (· < w.heap.size) w v n.kids) (hB : Bd w bb) : Calls Tryz.prog 69 #[Pt bb, n.val v, .bool m] w fun e w' => ∃ s, e = .returned (Pt s) ∧ Made w w' n (Nd 52 s) := by
  simp only [shF, Bool.and_eq_true] at hf
  obtain ⟨⟨hkd, htx⟩, hall⟩ := hf
  obtain ⟨i0, hi, hz0, hz1, hz2⟩ := info_parts info80
  have HF := Lib.hid (fun (j : Nat) (k : N) (hj : n.kids[j]? = some k) (v2 : Value) (w2 : World) (hk2 : KidsAt (· < w2.heap.size) w2 v2 k.kids) (hB2 : Bd w2 bb) =>
    field_any hE hS m one hm k v2 bb w2 (by have := N.size_kid hj; omega) (List.all_eq_true.1 hall k (List.mem_of_getElem? hj)) hk2 hB2)
  obtain ⟨a, cap, rfl, hcap, hel⟩ := hk.shape
  have hlen := N.len_lt n
  have hl400 : n.kids.length ≤ 400 := by omega
  have hw0 := (Below.refl w.heap.size w).alloc (Nat.le_refl _) (Obj.cells #[Value.string n.kind, Value.string n.text, Value.slice a n.kids.length cap] 24)
  have HI := Lib.hid (And.intro hi (And.intro hz0 (And.intro hz1 hz2)))
  have HBd := Lib.hid hB
  have HEL := Lib.hid hel
  have HKD := Lib.hid hkd
  have HTX := Lib.hid htx
  have HW0 := Lib.hid hw0
  have HK := Lib.hid hk
  clear hi hz0 hz1 hz2 hB hk hel hkd htx hall hE hS hm hw0
  unfold N.val
  go_enter Tryz.func69, Tryz.ntmps69
  go_wp2_with fail
  refine (next_any bb _ (HBd.out.later HW0.out)).mono ?_
  rintro e w2 ⟨rfl, rfl⟩
  go_wp2_with fail
  have hs2 := HW0.out.size
  go_loopw [17] (fun i wr => ∃ (j : Nat) (L : List Value) (v : Value), j ≤ n.kids.length ∧ i = .int .i64 j ∧ Blk wr (w.heap.size + 1) 91 #[.int .i64 1, v, .int .i64 0] ∧ wr.ownsRow (w.heap.size + 2) 92 1 v j L ∧ Below w.heap.size w wr ∧ w.heap.size + 2 ≤ wr.heap.size ∧ Elems (At (Ex v (w.heap.size + 2) wr.heap.size) wr) (ByPt 92) n.kids L)
    (fun i _ => n.kids.length - (intOf i).toNat)
  case atStart =>
    exact ⟨0, [], .slice none 0 0, Nat.zero_le _, rfl, by simpa using Blk.new (w.alloc (Obj.cells #[Value.string n.kind, Value.string n.text, Value.slice a n.kids.length cap] 24)) _ _, World.ownsRow_nil _ _ _ _, HW0.out.alloc (by simp) _, by simp, Elems.nil _ _ _⟩
  case round =>
    obtain ⟨j, L, vl, hj, rfl, hblk, hown, hbel, hsr, hE⟩ := hrel
    have HBLK := Lib.hid hblk
    have HOWN := Lib.hid hown
    have HBEL := Lib.hid hbel
    have HE := Lib.hid hE
    clear hblk hown hbel hE
    by_cases hjl : j < n.kids.length
    · have hjl' : (j : Int) < (n.kids.length : Int) := by omega
      obtain ⟨b, o, V, rfl, hb, c0, c1, c2, hV⟩ := HEL.out j n.kids[j] (List.getElem?_eq_getElem hjl)
      have c0 := (HBEL.out.cell (p := ⟨b, o + j * 3, none⟩) hb).trans c0
      have c1 := (HBEL.out.cell (p := ⟨b, o + j * 3 + 1, none⟩) hb).trans c1
      have c2 := (HBEL.out.cell (p := ⟨b, o + j * 3 + 2, none⟩) hb).trans c2
      obtain ⟨a2, cap2, rfl, _, _⟩ := hV.shape
      have HV := Lib.hid (hV.later HBEL.out)
      clear hV
      have hgj : n.kids[j]? = some n.kids[j] := List.getElem?_eq_getElem hjl
      have HGJ := Lib.hid hgj
      clear hgj
      have y1 := HBLK.out.cell 1 _ rfl
      have yf := HBLK.out.frozen 1
      have hltx := HBLK.out.lt
      go_wp2_with fail
      go_region_law (first
        | (refine step_call (by rfl) 55 _ _ (by rfl) #[Pt bb, n.kids[j].val (.slice a2 n.kids[j].kids.length cap2), .bool m] (by simp [Act.eval, N.val]) (enters_of Tryz.func55 (by kernel_rfl) rfl) (HF.out j n.kids[j] HGJ.out (.slice a2 n.kids[j].kids.length cap2) _ (HV.out.later (((Below.refl _ _).alloc (Nat.le_refl _) _).drew)) ((HBd.out.later HBEL.out).later (((Below.refl _ _).alloc (Nat.le_refl _) _).drew))) ?_
           rintro e w3 ⟨s, rfl, hb3, hr3⟩
           refine ⟨_, rfl, ?_⟩
           have hbA := (((Below.refl wr.heap.size wr).alloc (Nat.le_refl _) (Obj.cells #[Value.string n.kids[j].kind, Value.string n.kids[j].text, Value.slice a2 n.kids[j].kids.length cap2] 24)).drew).trans (hb3.mono (by simp))
           have hs3 : wr.heap.size ≤ w3.heap.size := hbA.size
           have hx3 := HBLK.out.later hbA hltx
           have z1 := hx3.cell 1 _ rfl
           have zf := hx3.frozen 1
           have lt3 := hx3.lt
           have HOWN3 := Lib.hid (owns_kept HOWN.out hbA)
           have HR3 := Lib.hid hr3
           have HBA := Lib.hid hbA
           have HX3 := Lib.hid hx3
           clear hb3 hr3 hbA hx3)
        | (refine step_append_lies _ (by rfl) (.tmp 25) (.tmp 30) 89 (by rfl) (w.heap.size + 2) 92 i0 (.pointer none) 1 8 under91 HI.out.1 HI.out.2.1 HI.out.2.2.1 HI.out.2.2.2 (by rfl) (by decide) vl j L (by simp [Act.eval]) (HOWN3.out.alloc _) ⟨w3.heap.size, 0, none⟩ 1 1 [Pt s] (by simp [Act.eval]) (by rfl) (World.news_of_block (heap_alloc_new _ _)) (by simp [Value.oneCell']) (by decide) (by unfold maxLen; omega) (by omega) (by simp; omega) (w3.heap.size + 1) (by simp) ?_
           intro g cap' w5 hown5 hgrow5 hat5 hlt5
           have hbC := HBA.out.alloc hs3 (.cells #[Pt s] 92)
           have HE5 := Lib.hid (elems_step (n := j + 1) (cap := cap') HE.out hsr (fun k hk => (HOWN.out.lt k hk).2) hbC (HR3.out.beneath ((Below.refl w3.heap.size w3).alloc (Nat.le_refl _) (.cells #[Pt s] 92)) (by simp) (Nat.le_refl _) (by simp)) ⟨s, rfl, rfl⟩ hgrow5 (hat5.imp id (fun h => by simp; omega)) (by simpa using HOWN3.out.1) HGJ.out)
           have HB5 := Lib.hid ((HBEL.out.trans (hbC.mono HBEL.out.size)).grown hgrow5 (by simp; omega) (fun k hk => by have := (HOWN.out.lt k hk).1; omega))
           have hx5 : Blk w5 (w.heap.size + 1) 91 #[.int .i64 1, vl, .int .i64 0] := (hgrow5.block _ (by simp; omega) (fun h => by have := (HOWN.out.lt _ h.symm).1; omega)).trans (HX3.out.later ((Below.refl w3.heap.size w3).alloc (Nat.le_refl _) (.cells #[Pt s] 92)) HX3.out.lt)
           have z1 := hx5.cell 1 _ rfl
           have zf := hx5.frozen 1
           have HX5 := Lib.hid hx5
           have HO5 := Lib.hid hown5
           have hsz5 : w.heap.size + 2 ≤ w5.heap.size := by have := hgrow5.size; simp at this; omega
           clear hown5 hgrow5 hat5 hbC hx5))
      all_goals
        go_wp2_with fail
        go_roundw
        case rel => exact ⟨j + 1, L ++ [Pt s], .slice (some ⟨g, 0, none⟩) (j + 1) cap', by omega, by go_num, HX5.out.set 1 _, ownsRow_setCell_below HO5.out (by simp) _, HB5.out.setCell (by simp) _, by simpa using hsz5, HE5.out.set (by omega)⟩
        case measure => simp [intOf]; omega
    · have hjl' : ¬ (j : Int) < (n.kids.length : Int) := by omega
      have hjj : j = n.kids.length := by omega
      subst hjj
      have y2 := HBLK.out.cell 2 _ rfl
      have yf := HBLK.out.frozen 2
      go_wp2_with fail
      refine (next_any bb _ (HBd.out.later HBEL.out)).mono ?_
      rintro e w2 ⟨rfl, rfl⟩
      go_wp2_with fail
      go_ret
      exact ⟨_, rfl, HBEL.out.setCell (by simp) _, fields_rep n _ _ L _ _ HKD.out HTX.out (HBLK.out.set 2 _) (by omega) (ownsRow_setCell_below HOWN.out (by simp) _) (HE.out.set (by omega))⟩
end Go.Proofs.YtoijkbkcfbbmfaaGreatDoor

/- What is proved here: the builder's parameters. -/
namespace Go.Proofs.YtoijkbkcfbbmfaaGreatDoor
open Go.RowKit Go.Shelf
attribute [local go_sem ↓] Go.wp_at_zero Go.wp_at_succ

set_option maxHeartbeats 4000000 in
set_option maxRecDepth 100000 in
theorem params_made {f : Nat} (hE : BE f) (hS : BS f) (n : N) (v : Value) (bb : Nat) (w : World) (hn : n.size ≤ 400) (hf : shF (shE f) bare n = true)
    (hk : KidsAt (· < w.heap.size) w v n.kids) (hB : Bd w bb) : Calls Tryz.prog 34 #[Pt bb, n.val v] w fun e w' => ∃ s, e = .returned (Pt s) ∧ Made w w' n (Nd 52 s) := by
  simp only [shF, Bool.and_eq_true] at hf
  obtain ⟨⟨hkd, htx⟩, hall⟩ := hf
  obtain ⟨i0, hi, hz0, hz1, hz2⟩ := info_parts info80
  have HF := Lib.hid (fun (j : Nat) (k : N) (hj : n.kids[j]? = some k) (v2 : Value) (w2 : World) (hk2 : KidsAt (· < w2.heap.size) w2 v2 k.kids) (hB2 : Bd w2 bb) =>
    field_any hE hS false bare (fun h => by cases h) k v2 bb w2 (by have := N.size_kid hj; omega) (List.all_eq_true.1 hall k (List.mem_of_getElem? hj)) hk2 hB2)
  obtain ⟨a, cap, rfl, hcap, hel⟩ := hk.shape
  have hlen := N.len_lt n
  have hl400 : n.kids.length ≤ 400 := by omega
  have hw0 := (Below.refl w.heap.size w).alloc (Nat.le_refl _) (Obj.cells #[Value.string n.kind, Value.string n.text, Value.slice a n.kids.length cap] 24)
  have HI := Lib.hid (And.intro hi (And.intro hz0 (And.intro hz1 hz2)))
  have HBd := Lib.hid hB
  have HEL := Lib.hid hel
  have HKD := Lib.hid hkd
  have HTX := Lib.hid htx
  have HW0 := Lib.hid hw0
  have HK := Lib.hid hk
  clear hi hz0 hz1 hz2 hB hk hel hkd htx hall hE hS hw0
  have k0 : (n.kind.toList == [110, 111, 110, 101]) = false := by
    have h := HKD.out
    unfold isK at h
    rw [beq_iff_eq.1 h]
    decide
  unfold N.val
  go_enter Tryz.func34, Tryz.ntmps34
  go_wp2_with fail
  refine (next_any bb _ (HBd.out.later HW0.out)).mono ?_
  rintro e w2 ⟨rfl, rfl⟩
  go_wp2_with fail
  have hs2 := HW0.out.size
  go_loopw [18] (fun i wr => ∃ (j : Nat) (L : List Value) (v : Value), j ≤ n.kids.length ∧ i = .int .i64 j ∧ Blk wr (w.heap.size + 1) 91 #[.int .i64 1, v, .int .i64 0] ∧ wr.ownsRow (w.heap.size + 2) 92 1 v j L ∧ Below w.heap.size w wr ∧ w.heap.size + 2 ≤ wr.heap.size ∧ Elems (At (Ex v (w.heap.size + 2) wr.heap.size) wr) (ByPt 92) n.kids L)
    (fun i _ => n.kids.length - (intOf i).toNat)
  case atStart =>
    exact ⟨0, [], .slice none 0 0, Nat.zero_le _, rfl, by simpa using Blk.new (w.alloc (Obj.cells #[Value.string n.kind, Value.string n.text, Value.slice a n.kids.length cap] 24)) _ _, World.ownsRow_nil _ _ _ _, HW0.out.alloc (by simp) _, by simp, Elems.nil _ _ _⟩
  case round =>
    obtain ⟨j, L, vl, hj, rfl, hblk, hown, hbel, hsr, hE⟩ := hrel
    have HBLK := Lib.hid hblk
    have HOWN := Lib.hid hown
    have HBEL := Lib.hid hbel
    have HE := Lib.hid hE
    clear hblk hown hbel hE
    by_cases hjl : j < n.kids.length
    · have hjl' : (j : Int) < (n.kids.length : Int) := by omega
      obtain ⟨b, o, V, rfl, hb, c0, c1, c2, hV⟩ := HEL.out j n.kids[j] (List.getElem?_eq_getElem hjl)
      have c0 := (HBEL.out.cell (p := ⟨b, o + j * 3, none⟩) hb).trans c0
      have c1 := (HBEL.out.cell (p := ⟨b, o + j * 3 + 1, none⟩) hb).trans c1
      have c2 := (HBEL.out.cell (p := ⟨b, o + j * 3 + 2, none⟩) hb).trans c2
      obtain ⟨a2, cap2, rfl, _, _⟩ := hV.shape
      have HV := Lib.hid (hV.later HBEL.out)
      clear hV
      have hgj : n.kids[j]? = some n.kids[j] := List.getElem?_eq_getElem hjl
      have HGJ := Lib.hid hgj
      clear hgj
      have y1 := HBLK.out.cell 1 _ rfl
      have yf := HBLK.out.frozen 1
      have hltx := HBLK.out.lt
      by_cases hj0 : 0 < j
      · have hj0' : (0 : Int) < (j : Int) := by omega
        go_wp2_with fail
        refine (next_any bb _ ((HBd.out.later HBEL.out).later ((Below.refl _ _).alloc (Nat.le_refl _) _))).mono ?_
        rintro e w2 ⟨rfl, rfl⟩
        go_wp2_with fail
        go_region_law (first
          | (refine step_call (by rfl) 55 _ _ (by rfl) #[Pt bb, n.kids[j].val (.slice a2 n.kids[j].kids.length cap2), .bool false] (by simp [Act.eval, N.val]) (enters_of Tryz.func55 (by kernel_rfl) rfl) (HF.out j n.kids[j] HGJ.out (.slice a2 n.kids[j].kids.length cap2) _ (HV.out.later (((Below.refl _ _).alloc (Nat.le_refl _) _).drew)) ((HBd.out.later HBEL.out).later (((Below.refl _ _).alloc (Nat.le_refl _) _).drew))) ?_
             rintro e w3 ⟨s, rfl, hb3, hr3⟩
             refine ⟨_, rfl, ?_⟩
             have hbA := (((Below.refl wr.heap.size wr).alloc (Nat.le_refl _) (Obj.cells #[Value.string n.kids[j].kind, Value.string n.kids[j].text, Value.slice a2 n.kids[j].kids.length cap2] 24)).drew).trans (hb3.mono (by simp))
             have hs3 : wr.heap.size ≤ w3.heap.size := hbA.size
             have hx3 := HBLK.out.later hbA hltx
             have z1 := hx3.cell 1 _ rfl
             have zf := hx3.frozen 1
             have lt3 := hx3.lt
             have HOWN3 := Lib.hid (owns_kept HOWN.out hbA)
             have HR3 := Lib.hid hr3
             have HBA := Lib.hid hbA
             have HX3 := Lib.hid hx3
             clear hb3 hr3 hbA hx3)
          | (refine step_append_lies _ (by rfl) (.tmp 31) (.tmp 35) 89 (by rfl) (w.heap.size + 2) 92 i0 (.pointer none) 1 8 under91 HI.out.1 HI.out.2.1 HI.out.2.2.1 HI.out.2.2.2 (by rfl) (by decide) vl j L (by simp [Act.eval]) (HOWN3.out.alloc _) ⟨w3.heap.size, 0, none⟩ 1 1 [Pt s] (by simp [Act.eval]) (by rfl) (World.news_of_block (heap_alloc_new _ _)) (by simp [Value.oneCell']) (by decide) (by unfold maxLen; omega) (by omega) (by simp; omega) (w3.heap.size + 1) (by simp) ?_
             intro g cap' w5 hown5 hgrow5 hat5 hlt5
             have hbC := HBA.out.alloc hs3 (.cells #[Pt s] 92)
             have HE5 := Lib.hid (elems_step (n := j + 1) (cap := cap') HE.out hsr (fun k hk => (HOWN.out.lt k hk).2) hbC (HR3.out.beneath ((Below.refl w3.heap.size w3).alloc (Nat.le_refl _) (.cells #[Pt s] 92)) (by simp) (Nat.le_refl _) (by simp)) ⟨s, rfl, rfl⟩ hgrow5 (hat5.imp id (fun h => by simp; omega)) (by simpa using HOWN3.out.1) HGJ.out)
             have HB5 := Lib.hid ((HBEL.out.trans (hbC.mono HBEL.out.size)).grown hgrow5 (by simp; omega) (fun k hk => by have := (HOWN.out.lt k hk).1; omega))
             have hx5 : Blk w5 (w.heap.size + 1) 91 #[.int .i64 1, vl, .int .i64 0] := (hgrow5.block _ (by simp; omega) (fun h => by have := (HOWN.out.lt _ h.symm).1; omega)).trans (HX3.out.later ((Below.refl w3.heap.size w3).alloc (Nat.le_refl _) (.cells #[Pt s] 92)) HX3.out.lt)
             have z1 := hx5.cell 1 _ rfl
             have zf := hx5.frozen 1
             have HX5 := Lib.hid hx5
             have HO5 := Lib.hid hown5
             have hsz5 : w.heap.size + 2 ≤ w5.heap.size := by have := hgrow5.size; simp at this; omega
             clear hown5 hgrow5 hat5 hbC hx5))
        all_goals
          go_wp2_with fail
          go_roundw
          case rel => exact ⟨j + 1, L ++ [Pt s], .slice (some ⟨g, 0, none⟩) (j + 1) cap', by omega, by go_num, HX5.out.set 1 _, ownsRow_setCell_below HO5.out (by simp) _, HB5.out.setCell (by simp) _, by simpa using hsz5, HE5.out.set (by omega)⟩
          case measure => simp [intOf]; omega
      · have hj0' : ¬ (0 : Int) < (j : Int) := by omega
        go_wp2_with fail
        go_region_law (first
          | (refine step_call (by rfl) 55 _ _ (by rfl) #[Pt bb, n.kids[j].val (.slice a2 n.kids[j].kids.length cap2), .bool false] (by simp [Act.eval, N.val]) (enters_of Tryz.func55 (by kernel_rfl) rfl) (HF.out j n.kids[j] HGJ.out (.slice a2 n.kids[j].kids.length cap2) _ (HV.out.later (((Below.refl _ _).alloc (Nat.le_refl _) _).drew)) ((HBd.out.later HBEL.out).later (((Below.refl _ _).alloc (Nat.le_refl _) _).drew))) ?_
             rintro e w3 ⟨s, rfl, hb3, hr3⟩
             refine ⟨_, rfl, ?_⟩
             have hbA := (((Below.refl wr.heap.size wr).alloc (Nat.le_refl _) (Obj.cells #[Value.string n.kids[j].kind, Value.string n.kids[j].text, Value.slice a2 n.kids[j].kids.length cap2] 24)).drew).trans (hb3.mono (by simp))
             have hs3 : wr.heap.size ≤ w3.heap.size := hbA.size
             have hx3 := HBLK.out.later hbA hltx
             have z1 := hx3.cell 1 _ rfl
             have zf := hx3.frozen 1
             have lt3 := hx3.lt
             have HOWN3 := Lib.hid (owns_kept HOWN.out hbA)
             have HR3 := Lib.hid hr3
             have HBA := Lib.hid hbA
             have HX3 := Lib.hid hx3
             clear hb3 hr3 hbA hx3)
          | (refine step_append_lies _ (by rfl) (.tmp 31) (.tmp 35) 89 (by rfl) (w.heap.size + 2) 92 i0 (.pointer none) 1 8 under91 HI.out.1 HI.out.2.1 HI.out.2.2.1 HI.out.2.2.2 (by rfl) (by decide) vl j L (by simp [Act.eval]) (HOWN3.out.alloc _) ⟨w3.heap.size, 0, none⟩ 1 1 [Pt s] (by simp [Act.eval]) (by rfl) (World.news_of_block (heap_alloc_new _ _)) (by simp [Value.oneCell']) (by decide) (by unfold maxLen; omega) (by omega) (by simp; omega) (w3.heap.size + 1) (by simp) ?_
             intro g cap' w5 hown5 hgrow5 hat5 hlt5
             have hbC := HBA.out.alloc hs3 (.cells #[Pt s] 92)
             have HE5 := Lib.hid (elems_step (n := j + 1) (cap := cap') HE.out hsr (fun k hk => (HOWN.out.lt k hk).2) hbC (HR3.out.beneath ((Below.refl w3.heap.size w3).alloc (Nat.le_refl _) (.cells #[Pt s] 92)) (by simp) (Nat.le_refl _) (by simp)) ⟨s, rfl, rfl⟩ hgrow5 (hat5.imp id (fun h => by simp; omega)) (by simpa using HOWN3.out.1) HGJ.out)
             have HB5 := Lib.hid ((HBEL.out.trans (hbC.mono HBEL.out.size)).grown hgrow5 (by simp; omega) (fun k hk => by have := (HOWN.out.lt k hk).1; omega))
             have hx5 : Blk w5 (w.heap.size + 1) 91 #[.int .i64 1, vl, .int .i64 0] := (hgrow5.block _ (by simp; omega) (fun h => by have := (HOWN.out.lt _ h.symm).1; omega)).trans (HX3.out.later ((Below.refl w3.heap.size w3).alloc (Nat.le_refl _) (.cells #[Pt s] 92)) HX3.out.lt)
             have z1 := hx5.cell 1 _ rfl
             have zf := hx5.frozen 1
             have HX5 := Lib.hid hx5
             have HO5 := Lib.hid hown5
             have hsz5 : w.heap.size + 2 ≤ w5.heap.size := by have := hgrow5.size; simp at this; omega
             clear hown5 hgrow5 hat5 hbC hx5))
        all_goals
          go_wp2_with fail
          go_roundw
          case rel => exact ⟨j + 1, L ++ [Pt s], .slice (some ⟨g, 0, none⟩) (j + 1) cap', by omega, by go_num, HX5.out.set 1 _, ownsRow_setCell_below HO5.out (by simp) _, HB5.out.setCell (by simp) _, by simpa using hsz5, HE5.out.set (by omega)⟩
          case measure => simp [intOf]; omega
    · have hjl' : ¬ (j : Int) < (n.kids.length : Int) := by omega
      have hjj : j = n.kids.length := by omega
      subst hjj
      have y2 := HBLK.out.cell 2 _ rfl
      have yf := HBLK.out.frozen 2
      go_wp2_with fail
      refine (next_any bb _ (HBd.out.later HBEL.out)).mono ?_
      rintro e w2 ⟨rfl, rfl⟩
      go_wp2_with fail
      go_ret
      exact ⟨_, rfl, HBEL.out.setCell (by simp) _, fields_rep n _ _ L _ _ HKD.out HTX.out (HBLK.out.set 2 _) (by omega) (ownsRow_setCell_below HOWN.out (by simp) _) (HE.out.set (by omega))⟩

set_option maxRecDepth 100000 in
theorem params_none (bb : Nat) (n : N) (v : Value) (w : World) (hm : missing n = true) (hk : KidsAt (· < w.heap.size) w v n.kids) : Calls Tryz.prog 34 #[Pt bb, n.val v] w fun e w' => e = .returned (.pointer none) ∧ Below w.heap.size w w' := by
  obtain ⟨a, cap, rfl, hcap, _⟩ := hk.shape
  have k0 : (n.kind.toList == [110, 111, 110, 101]) = true := by
    simp only [missing, isK, Bool.and_eq_true] at hm
    exact hm.1.1
  clear hm hk
  unfold N.val
  go_enter Tryz.func34, Tryz.ntmps34
  go_wp2_with fail
  go_ret
  exact ⟨rfl, (Below.refl _ _).alloc (Nat.le_refl _) _⟩
end Go.Proofs.YtoijkbkcfbbmfaaGreatDoor

