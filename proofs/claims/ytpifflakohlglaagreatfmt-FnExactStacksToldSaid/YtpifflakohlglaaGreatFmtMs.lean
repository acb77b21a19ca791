/- What is proved here: the stack of nodes and the rows of PreorderStack and Stacks. Conditions: each theorem names its own. -/
import Derived.Test.YtpifflakohlglaaGreatFmtMj
import Derived.Test.YtpifflakohlglaaGreatFmtMi
import Derived.Test.YtpifflakohlglaaGreatFmtMk
import Derived.Test.YtpifflakohlglaaGreatFmtMf
set_option linter.all false
set_option linter.unusedVariables false
set_option linter.unusedSimpArgs false
/- What is proved here: what Stacks keeps between two calls: the stack of nodes, the rows of kinds, each row in memory of its own. -/
namespace Go.Proofs.YtpifflakohlglaaGreatFmt
open Go.RowKit Go.Shelf
set_option linter.unusedVariables false
set_option linter.unusedSimpArgs false

theorem underAst : Tryz.prog.underlying 58 = some (.slice 55) := by kernel_rfl
theorem infoAst : (Tryz.prog.info? 55).map (fun i => (i.zero, i.size, i.bytes)) = some (some .nilIface, 1, 16) := by kernel_rfl
theorem underRows : Tryz.prog.underlying 40 = some (.slice 33) := by kernel_rfl
theorem infoStrs : (Tryz.prog.info? 33).map (fun i => (i.zero, i.size, i.bytes)) = some (some (.slice none 0 0), 1, 24) := by kernel_rfl
/-- A stack of nodes as values. -/
def StkOf (C : Nat → Nat → Value → Prop) (st : List N) (xs : List Value) : Prop := xs.length = st.length ∧ ∀ (i : Nat) (m : N), st[i]? = some m → ∃ t b, xs[i]? = some (Nd t b) ∧ Rep C m (Nd t b) ∧ m.size ≤ 1000000
theorem StkOf.snoc {C : Nat → Nat → Value → Prop} {st : List N} {xs : List Value} {m : N} {t b : Nat} (h : StkOf C st xs) (hR : Rep C m (Nd t b)) (hm : m.size ≤ 1000000) : StkOf C (st ++ [m]) (xs ++ [Nd t b]) := by
  refine ⟨by simp [h.1], fun i x hi => ?_⟩
  rw [List.getElem?_append] at hi
  split at hi
  · rename_i hlt
    obtain ⟨t', b', h1, h2⟩ := h.2 i x hi
    exact ⟨t', b', by rw [List.getElem?_append_left (by rw [h.1]; exact hlt)]; exact h1, h2⟩
  · rename_i hge
    have h0 : i - st.length = 0 := by
      have := (List.getElem?_eq_some_iff.1 hi).1
      simp at this
      omega
    rw [h0] at hi
    simp at hi
    subst hi
    exact ⟨t, b, by rw [List.getElem?_append_right (by rw [h.1]; omega), h.1, h0]; rfl, hR, hm⟩
theorem StkOf.pop {C : Nat → Nat → Value → Prop} {st : List N} {xs : List Value} (h : StkOf C st xs) : StkOf C st.dropLast (xs.take (st.length - 1)) := by
  refine ⟨by simp [h.1], fun i x hi => ?_⟩
  have hlt := (List.getElem?_eq_some_iff.1 hi).1
  simp at hlt
  have hi' : st[i]? = some x := by
    rw [List.getElem?_dropLast] at hi
    split at hi
    all_goals first | exact hi | (simp at hi)
  obtain ⟨t, b, h1, h2⟩ := h.2 i x hi'
  exact ⟨t, b, by rw [List.getElem?_take, if_pos hlt]; exact h1, h2⟩
/-- Rows of texts, each in a block of its own. -/
def RowsIn (w : World) (base : Nat) (bad : Nat → Prop) (out : List (List ByteArray)) (us : List Value) : Prop :=
  us.length = out.length ∧ ∀ (i : Nat) (r : List ByteArray), out[i]? = some r → ∃ g cap, us[i]? = some (.slice (some ⟨g, 0, none⟩) r.length cap) ∧ r.length ≤ cap ∧ base ≤ g ∧ g < w.heap.size ∧ ¬ bad g ∧ ∀ (j : Nat) (s : ByteArray), r[j]? = some s → w.cell? ⟨g, j, none⟩ = some (.string s)
theorem RowsIn.keep {w w' : World} {base : Nat} {bad bad' : Nat → Prop} {out : List (List ByteArray)} {us : List Value} (h : RowsIn w base bad out us) (hs : w.heap.size ≤ w'.heap.size) (hk : ∀ g, base ≤ g → g < w.heap.size → ¬ bad g → w'.heap[g]? = w.heap[g]? ∧ ¬ bad' g) : RowsIn w' base bad' out us := by
  refine ⟨h.1, fun i r hi => ?_⟩
  obtain ⟨g, cap, h1, h2, h3, h4, h5, h6⟩ := h.2 i r hi
  obtain ⟨k1, k2⟩ := hk g h3 h4 h5
  exact ⟨g, cap, h1, h2, h3, Nat.lt_of_lt_of_le h4 hs, k2, fun j s hj => (World.cell?_of_block k1).trans (h6 j s hj)⟩
theorem RowsIn.snoc {w : World} {base : Nat} {bad : Nat → Prop} {out : List (List ByteArray)} {us : List Value} {r : List ByteArray} {g cap : Nat} (h : RowsIn w base bad out us) (hc : r.length ≤ cap) (hb : base ≤ g) (hg : g < w.heap.size) (hbad : ¬ bad g)
    (hcell : ∀ (j : Nat) (s : ByteArray), r[j]? = some s → w.cell? ⟨g, j, none⟩ = some (.string s)) : RowsIn w base bad (out ++ [r]) (us ++ [.slice (some ⟨g, 0, none⟩) r.length cap]) := by
  refine ⟨by simp [h.1], fun i x hi => ?_⟩
  rw [List.getElem?_append] at hi
  split at hi
  · rename_i hlt
    obtain ⟨g', cap', h1, h2⟩ := h.2 i x hi
    exact ⟨g', cap', by rw [List.getElem?_append_left (by rw [h.1]; exact hlt)]; exact h1, h2⟩
  · rename_i hge
    have h0 : i - out.length = 0 := by
      have := (List.getElem?_eq_some_iff.1 hi).1
      simp at this
      omega
    rw [h0] at hi
    simp at hi
    subst hi
    exact ⟨g, cap, by rw [List.getElem?_append_right (by rw [h.1]; omega), h.1, h0]; rfl, hc, hb, hg, hbad, hcell⟩
/-- The memory of a stack and of rows. -/
structure StMem (C : Nat → Nat → Value → Prop) (O Sb base : Nat) (st : List N) (out : List (List ByteArray)) (v u : Value) (xs us : List Value) (w : World) : Prop where
  bs : Blk w Sb 58 #[v]
  bo : Blk w O 40 #[u]
  stk : w.ownsRow base 55 1 v st.length xs
  rows : w.ownsRow base 33 1 u out.length us
  of : StkOf C st xs
  ne : ∀ g, v.ownBlock = some g → ¬ u.ownBlock = some g
  ins : RowsIn w base (fun g => v.ownBlock = some g ∨ u.ownBlock = some g) out us
structure StInv (C : Nat → Nat → Value → Prop) (O P Sb Fb base B : Nat) (stop : ByteArray) (w0 : World) (S : List N × List (List ByteArray)) (w : World) : Prop where
  mem : ∃ v u xs us, StMem C O Sb base S.1 S.2 v u xs us w
  fn : Blk w Fb 59 #[.func (.func 27) #[] #[Pt O, Pt P]]
  stp : Blk w P 9 #[.string stop]
  sees : Sees C w
  tab : TokTab w
  low : Below B w0 w
  hi : base ≤ w.heap.size
  dep : S.1.length ≤ S.2.length
structure StLay (C : Nat → Nat → Value → Prop) (O P Sb Fb base B : Nat) : Prop where
  o : O < base
  p : P < base
  s : Sb < base
  f : Fb < base
  op : O ≠ P
  os : O ≠ Sb
  of : O ≠ Fb
  sp : Sb ≠ P
  sf : Sb ≠ Fb
  c : ∀ b o u, C b o u → b < base ∧ b ≠ O ∧ b ≠ Sb
  bo : B ≤ O
  bs : B ≤ Sb
  b0 : 0 < B
theorem owns_kept' {w w' : World} {base e size n : Nat} {v : Value} {xs : List Value} (h : w.ownsRow base e size v n xs) (hb : Below w.heap.size w w') : w'.ownsRow base e size v n xs := owns_kept h hb
theorem StMem.later {C : Nat → Nat → Value → Prop} {O Sb base : Nat} {st : List N} {out : List (List ByteArray)} {v u : Value} {xs us : List Value} {w w' : World} (h : StMem C O Sb base st out v u xs us w) (hb : Below w.heap.size w w') : StMem C O Sb base st out v u xs us w' :=
  ⟨h.bs.later hb h.bs.lt, h.bo.later hb h.bo.lt, owns_kept h.stk hb, owns_kept h.rows hb, h.of, h.ne, h.ins.keep hb.size fun g _ hg hn => ⟨hb.block g hg, hn⟩⟩
/-- What is of the rest, where the blocks under base but two are as they were. -/
theorem StInv.rest {C : Nat → Nat → Value → Prop} {O P Sb Fb base B : Nat} {stop : ByteArray} {w0 w w' : World} {S S' : List N × List (List ByteArray)} (h : StInv C O P Sb Fb base B stop w0 S w) (hL : StLay C O P Sb Fb base B) (hk : ∀ b, b < base → b ≠ O → b ≠ Sb → w'.heap[b]? = w.heap[b]?) (hlow : Below B w w') (hs : w.heap.size ≤ w'.heap.size)
    (hm : ∃ v u xs us, StMem C O Sb base S'.1 S'.2 v u xs us w') (hd : S'.1.length ≤ S'.2.length) : StInv C O P Sb Fb base B stop w0 S' w' := by
  have ho := hL.o
  have hbo := hL.bo
  have hbs := hL.bs
  have hb0 := hL.b0
  refine ⟨hm, (hk Fb hL.f (Ne.symm hL.of) (Ne.symm hL.sf)).trans h.fn, (hk P hL.p (Ne.symm hL.op) (Ne.symm hL.sp)).trans h.stp, fun b o u hc => ?_, fun i t hi => ?_, h.low.trans hlow, Nat.le_trans h.hi hs, hd⟩
  · obtain ⟨c1, c2, c3⟩ := hL.c b o u hc
    exact (World.cell?_of_block (hk b c1 c2 c3)).trans (h.sees b o u hc)
  · obtain ⟨x, hx, hc⟩ := h.tab i t hi
    exact ⟨x, hx, (World.cell?_of_block (hk 0 (by omega) (by omega) (by omega))).trans hc⟩
theorem StInv.later {C : Nat → Nat → Value → Prop} {O P Sb Fb base B : Nat} {stop : ByteArray} {w0 w w' : World} {S : List N × List (List ByteArray)} (h : StInv C O P Sb Fb base B stop w0 S w) (hL : StLay C O P Sb Fb base B) (hb : Below w.heap.size w w') : StInv C O P Sb Fb base B stop w0 S w' := by
  obtain ⟨v, u, xs, us, hm⟩ := h.mem
  have hhi := h.hi
  have ho := hL.o
  have hbo := hL.bo
  exact h.rest hL (fun b hb1 _ _ => hb.block b (by omega)) (hb.mono (by omega)) hb.size ⟨v, u, xs, us, hm.later hb⟩ h.dep
/-- A row more: it was made above all that was there, and its value was appended to the rows. -/
theorem StInv.row {C : Nat → Nat → Value → Prop} {O P Sb Fb base B : Nat} {stop : ByteArray} {w0 w w6 w7 : World} {st : List N} {out : List (List ByteArray)} {v u : Value} {xs us : List Value} {r : List ByteArray} {g1 c1 g2 c2 : Nat}
    (h : StInv C O P Sb Fb base B stop w0 (st, out) w) (hL : StLay C O P Sb Fb base B) (hm : StMem C O Sb base st out v u xs us w) (hb : Below w.heap.size w w6)
    (hrow : w6.ownsRow w.heap.size 9 1 (.slice (some ⟨g1, 0, none⟩) r.length c1) r.length (r.map Value.string))
    (hown : w7.ownsRow base 33 1 (.slice (some ⟨g2, 0, none⟩) (out.length + 1) c2) (out.length + 1) (us ++ [.slice (some ⟨g1, 0, none⟩) r.length c1])) (hg : w6.grownBy w7 u.ownBlock) (hat : u.ownBlock = some g2 ∨ g2 = w6.heap.size) :
    StInv C O P Sb Fb base B stop w0 (st, out ++ [r]) (w7.setCell ⟨O, 0, none⟩ (.slice (some ⟨g2, 0, none⟩) (out.length + 1) c2)) := by
  have hhi := h.hi
  have hs6 := hb.size
  have hs7 := hg.size
  have ho := hL.o
  have hbo := hL.bo
  have hu := hm.rows.lt
  have hv := hm.stk.lt
  have hr := hrow.lt g1 rfl
  have k6 : ∀ b, b < w.heap.size → w6.heap[b]? = w.heap[b]? := fun b hb' => hb.block b hb'
  have k7 : ∀ b, b < w6.heap.size → ¬ u.ownBlock = some b → w7.heap[b]? = w6.heap[b]? := fun b hb' hne => hg.block b hb' (fun e => hne e.symm)
  have kk : ∀ b, b < w.heap.size → ¬ u.ownBlock = some b → b ≠ O → (w7.setCell ⟨O, 0, none⟩ (.slice (some ⟨g2, 0, none⟩) (out.length + 1) c2)).heap[b]? = w.heap[b]? := fun b h1 h2 h3 => (heap_setCell_other _ _ b _ h3).trans ((k7 b (by omega) h2).trans (k6 b h1))
  have nu : ∀ b, b < base → ¬ u.ownBlock = some b := fun b hb' e => by have := (hu b e).1; omega
  have hO : Blk w7 O 40 #[u] := (k7 O (by omega) (nu O ho)).trans ((k6 O (by omega)).trans hm.bo)
  refine h.rest hL (fun b h1 h2 _ => kk b (by omega) (nu b h1) h2) ?_ (by simp; omega) ?_ (by have := h.dep; simp at this ⊢; omega)
  · exact ((hb.mono (by omega)).grown hg (by omega) (fun k hk => by have := (hu k hk).1; omega)).setCell (by show B ≤ O; omega) _
  · refine ⟨v, _, xs, us ++ [.slice (some ⟨g1, 0, none⟩) r.length c1], (kk Sb (by have := hL.s; omega) (nu Sb hL.s) (Ne.symm hL.os)).trans hm.bs, by simpa using hO.set 0 (.slice (some ⟨g2, 0, none⟩) (out.length + 1) c2), ?_, ?_, hm.of, ?_, ?_⟩
    · refine ownsRow_setCell_below (a := ⟨O, 0, none⟩) ?_ ho _
      refine (owns_kept' hm.stk hb).kept hg (Classical.or_iff_not_imp_left.2 fun hne e => ?_)
      cases hvb : v.ownBlock with
      | none => exact hne hvb
      | some g => exact hm.ne g hvb (by rw [← e, hvb])
    · rw [List.length_append]
      exact ownsRow_setCell_below (a := ⟨O, 0, none⟩) hown ho _
    · intro g hg1 hg2
      simp [Value.ownBlock] at hg2
      subst hg2
      rcases hat with h1 | h1
      · exact hm.ne _ hg1 h1
      · have := (hv _ hg1).2; omega
    · refine RowsIn.snoc ?_ ?_ (by omega) ?_ ?_ ?_
      · refine hm.ins.keep (by simp; omega) fun g h1 h2 h3 => ⟨kk g h2 (fun e => h3 (.inr e)) (by omega), ?_⟩
        rintro (h4 | h4)
        · exact h3 (.inl h4)
        · simp [Value.ownBlock] at h4
          subst h4
          rcases hat with h5 | h5
          · exact h3 (.inr h5)
          · omega
      · rcases hrow.2 with ⟨h1, _⟩ | ⟨g, cap, cur, h1, h2, h3, h4, _⟩
        · simp at h1
        · simp only [Value.slice.injEq] at h1
          obtain ⟨_, _, rfl⟩ := h1
          exact h4
      · simp; omega
      · rintro (h4 | h4)
        · have := (hv _ h4).2; omega
        · simp [Value.ownBlock] at h4
          subst h4
          rcases hat with h5 | h5
          · have := (hu _ h5).2; omega
          · omega
      · intro j s hj
        have hc := hrow.cells rfl j (.string s) (by simp [hj])
        have hadd : (⟨g1, 0, none⟩ : Addr).add j = ⟨g1, j, none⟩ := by unfold Addr.add; split <;> simp_all
        rw [hadd] at hc
        refine (World.cell?_of_block (a := ⟨g1, j, none⟩) ?_).trans hc
        refine (heap_setCell_other _ _ g1 _ (by show g1 ≠ O; omega)).trans (k7 g1 hr.2 fun e => ?_)
        have := (hu _ e).2
        omega
/-- A node more on the stack. -/
theorem StInv.up {C : Nat → Nat → Value → Prop} {O P Sb Fb base B : Nat} {stop : ByteArray} {w0 w w7 : World} {st : List N} {out : List (List ByteArray)} {v u : Value} {xs us : List Value} {m : N} {t b g2 c2 : Nat}
    (h : StInv C O P Sb Fb base B stop w0 (st, out) w) (hL : StLay C O P Sb Fb base B) (hm : StMem C O Sb base st out v u xs us w) (hR : Rep C m (Nd t b)) (hsz : m.size ≤ 1000000) (hd : st.length + 1 ≤ out.length)
    (hown : w7.ownsRow base 55 1 (.slice (some ⟨g2, 0, none⟩) (st.length + 1) c2) (st.length + 1) (xs ++ [Nd t b])) (hg : w.grownBy w7 v.ownBlock) (hat : v.ownBlock = some g2 ∨ g2 = w.heap.size) :
    StInv C O P Sb Fb base B stop w0 (st ++ [m], out) (w7.setCell ⟨Sb, 0, none⟩ (.slice (some ⟨g2, 0, none⟩) (st.length + 1) c2)) := by
  have hhi := h.hi
  have hs7 := hg.size
  have ho := hL.s
  have hbo := hL.bs
  have hu := hm.rows.lt
  have hv := hm.stk.lt
  have k7 : ∀ b, b < w.heap.size → ¬ v.ownBlock = some b → w7.heap[b]? = w.heap[b]? := fun b hb' hne => hg.block b hb' (fun e => hne e.symm)
  have kk : ∀ b, b < w.heap.size → ¬ v.ownBlock = some b → b ≠ Sb → (w7.setCell ⟨Sb, 0, none⟩ (.slice (some ⟨g2, 0, none⟩) (st.length + 1) c2)).heap[b]? = w.heap[b]? := fun b h1 h2 h3 => (heap_setCell_other _ _ b _ h3).trans (k7 b (by omega) h2)
  have nv : ∀ b, b < base → ¬ v.ownBlock = some b := fun b hb' e => by have := (hv b e).1; omega
  have hS : Blk w7 Sb 58 #[v] := (k7 Sb (by omega) (nv Sb ho)).trans hm.bs
  refine h.rest hL (fun b h1 _ h2 => kk b (by omega) (nv b h1) h2) ?_ (by simp; omega) ?_ (by simp; omega)
  · exact ((Below.refl B w).grown hg (by omega) (fun k hk => by have := (hv k hk).1; omega)).setCell (by show B ≤ Sb; omega) _
  · refine ⟨_, u, xs ++ [Nd t b], us, by simpa using hS.set 0 (.slice (some ⟨g2, 0, none⟩) (st.length + 1) c2), (kk O (by have := hL.o; omega) (nv O hL.o) hL.os).trans hm.bo, ?_, ?_, hm.of.snoc hR hsz, ?_, ?_⟩
    · rw [List.length_append]
      exact ownsRow_setCell_below (a := ⟨Sb, 0, none⟩) hown ho _
    · refine ownsRow_setCell_below (a := ⟨Sb, 0, none⟩) ?_ ho _
      refine hm.rows.kept hg (Classical.or_iff_not_imp_left.2 fun hne e => ?_)
      cases hvb : u.ownBlock with
      | none => exact hne hvb
      | some g => exact hm.ne g (by rw [← e, hvb]) hvb
    · intro g hg1 hg2
      simp [Value.ownBlock] at hg1
      subst hg1
      rcases hat with h1 | h1
      · exact hm.ne _ h1 hg2
      · have := (hu _ hg2).2; omega
    · refine hm.ins.keep (by simp; omega) fun g h1 h2 h3 => ⟨kk g h2 (fun e => h3 (.inl e)) (by omega), ?_⟩
      rintro (h4 | h4)
      · simp [Value.ownBlock] at h4
        subst h4
        rcases hat with h5 | h5
        · exact h3 (.inl h5)
        · omega
      · exact h3 (.inr h4)
/-- The last node off the stack. -/
theorem StInv.down {C : Nat → Nat → Value → Prop} {O P Sb Fb base B : Nat} {stop : ByteArray} {w0 w : World} {st : List N} {out : List (List ByteArray)} {ad : Option Addr} {u : Value} {c : Nat} {xs us : List Value}
    (h : StInv C O P Sb Fb base B stop w0 (st, out) w) (hL : StLay C O P Sb Fb base B) (hm : StMem C O Sb base st out (.slice ad st.length c) u xs us w) (hne : st ≠ []) :
    StInv C O P Sb Fb base B stop w0 (st.dropLast, out) (w.setCell ⟨Sb, 0, none⟩ (.slice ad (st.length - 1) c)) := by
  have hhi := h.hi
  have ho := hL.s
  have hbo := hL.bs
  have hpos := List.length_pos_iff.2 hne
  have kk : ∀ b, b ≠ Sb → (w.setCell ⟨Sb, 0, none⟩ (.slice ad (st.length - 1) c)).heap[b]? = w.heap[b]? := fun b h3 => heap_setCell_other _ _ b _ h3
  have hob : (Value.slice ad (st.length - 1) c).ownBlock = (Value.slice ad st.length c).ownBlock := by cases ad <;> rfl
  refine h.rest hL (fun b _ _ h2 => kk b h2) ?_ (by simp) ?_ (by have := h.dep; simp at this ⊢; omega)
  · exact (Below.refl B w).setCell (by show B ≤ Sb; omega) _
  · refine ⟨_, u, xs.take (st.length - 1), us, by simpa using hm.bs.set 0 (.slice ad (st.length - 1) c), (kk O hL.os).trans hm.bo, ?_, ownsRow_setCell_below (a := ⟨Sb, 0, none⟩) hm.rows ho _, hm.of.pop, ?_, ?_⟩
    · refine ownsRow_setCell_below (a := ⟨Sb, 0, none⟩) ?_ ho _
      rw [List.length_dropLast]
      have hx := hm.stk.1
      refine ⟨by simp; omega, ?_⟩
      rcases hm.stk.2 with ⟨_, h1⟩ | ⟨g, cap, cur, h1, h2, h3, h4, h5, h6, h7⟩
      · omega
      · simp only [Value.slice.injEq] at h1
        obtain ⟨rfl, _, rfl⟩ := h1
        refine .inr ⟨g, _, cur, rfl, h2, h3, by omega, h5, h6, ?_⟩
        rw [← h7, List.take_take]
        congr 1
        omega
    · intro g h1 h2
      rw [hob] at h1
      exact hm.ne g h1 h2
    · refine hm.ins.keep (by simp) fun g h1 h2 h3 => ⟨kk g (by omega), ?_⟩
      rw [hob]
      exact h3
end Go.Proofs.YtpifflakohlglaaGreatFmt

/- What is proved here: the function that Stacks hands to PreorderStack: a row of the kinds of the stack and of the node. -/
namespace Go.Proofs.YtpifflakohlglaaGreatFmt
open Go.RowKit Go.Shelf
set_option linter.unusedVariables false
set_option linter.unusedSimpArgs false
attribute [local go_sem ↓] Go.wp_at_zero Go.wp_at_succ

set_option maxHeartbeats 4000000 in
set_option maxRecDepth 100000 in
theorem stacks1_any {C : Nat → Nat → Value → Prop} {O P Sb Fb base B : Nat} {stop : ByteArray} {w0 : World} (hL : StLay C O P Sb Fb base B) {n : N} {t b : Nat} (hn : n.size ≤ 1000000) (hR : Rep C n (Nd t b)) (st : List N) (out : List (List ByteArray)) (v u : Value) (xs us : List Value) (w : World)
    (hI : StInv C O P Sb Fb base B stop w0 (st, out) w) (hm : StMem C O Sb base st out v u xs us w) (hs : out.length < 100000) :
    Calls Tryz.prog 27 #[Nd t b, v, Pt O, Pt P] w fun e w' => e = .returned (.bool (!(n.kind.toList == stop.toList))) ∧ StInv C O P Sb Fb base B stop w0 (st, out ++ [st.map N.kind ++ [n.kind]]) w' := by
  obtain ⟨i0, hi, hz0, hz1, hz2⟩ := info_parts infoString
  have HI0 := Lib.hid (And.intro hi (And.intro hz0 (And.intro hz1 hz2)))
  clear hi hz0 hz1 hz2
  obtain ⟨j0, hi, hz0, hz1, hz2⟩ := info_parts infoStrs
  have HJ0 := Lib.hid (And.intro hi (And.intro hz0 (And.intro hz1 hz2)))
  have hst : st.length < 100000 := by have := hI.dep; simp at this; omega
  obtain ⟨ax, cx, rfl, hel⟩ := RowAt.of_owns hm.stk
  obtain ⟨ks, hks⟩ : ∃ ks, ks = st.map N.kind := ⟨_, rfl⟩
  have hkl : ks.length = st.length := by rw [hks]; simp
  have hcap : st.length ≤ cx := by
    obtain ⟨ad, c', e, h1, _⟩ := owns_form hm.stk
    simp only [Value.slice.injEq] at e
    obtain ⟨_, _, rfl⟩ := e
    exact h1
  have hbase : base ≤ w.heap.size := hI.hi
  have HKS := Lib.hid hks
  have HEL := Lib.hid hel
  have HL := Lib.hid hL
  have HI := Lib.hid hI
  have HM := Lib.hid hm
  have HR := Lib.hid (And.intro hn hR)
  rw [← hks]
  clear hi hz0 hz1 hz2 hL hI hm hR hn hel hks
  go_enter Tryz.func27, Tryz.ntmps27
  go_wp2_with fail
  go_loopw [7, 13] (fun row i wr => ∃ j : Nat, j ≤ st.length ∧ i = .int .i64 j ∧ Below w.heap.size w wr ∧ wr.ownsRow w.heap.size 9 1 row j ((ks.map Value.string).take j)) (fun _ i _ => st.length - (intOf i).toNat)
  case atStart => exact ⟨0, Nat.zero_le _, rfl, Below.refl _ _, by simpa using World.ownsRow_nil _ _ _ _⟩
  case round =>
    obtain ⟨j, hj, rfl, hb, hrow⟩ := hrel
    have hsz := hb.size
    have HB := Lib.hid hb
    have HROW := Lib.hid hrow
    have HIR := Lib.hid (HI.out.later HL.out hb)
    clear hb hrow
    by_cases hjl : j < st.length
    · have hjl' : (j : Int) < (st.length : Int) := by omega
      obtain ⟨x, hget⟩ : ∃ x, st[j]? = some x := ⟨_, List.getElem?_eq_getElem hjl⟩
      obtain ⟨t', b', hx, hRx, hxs⟩ := HM.out.of.2 j x hget
      obtain ⟨bb, oo, rfl, c0⟩ := HEL.out j hjl
      have g1 : wr.cell? ⟨bb, oo + j, none⟩ = some (Nd t' b') := by
        refine cell_keep HB.out ?_
        have h0 := c0 0 (by omega)
        simp only [Nat.mul_one, Nat.add_zero, List.getD_eq_getElem?_getD, hx, Option.getD_some] at h0
        exact h0
      have HX := Lib.hid (And.intro hxs hRx)
      have htk : (ks.map Value.string).take (j + 1) = (ks.map Value.string).take j ++ [.string x.kind] := by
        rw [List.take_add_one, HKS.out, List.getElem?_map, List.getElem?_map, hget]
        simp
      have HTK := Lib.hid htk
      clear hRx hxs hx c0 htk hget
      go_wp2_with fail
      refine (kind_any HX.out.1 HX.out.2 wr HIR.out.sees HIR.out.tab).mono ?_
      rintro e w2 ⟨rfl, hb2⟩
      have hs2 := hb2.size
      have HB2 := Lib.hid (HB.out.trans (hb2.mono hsz))
      have HROW2 := Lib.hid (owns_kept HROW.out hb2)
      clear hb2
      go_wp2_with (at_builtin; refine wpList_append_lies _ rfl (.tmp 17) (.tmp 20) 33 rfl w.heap.size 9 i0 (.string ⟨#[]⟩) 1 16 underStrings HI0.out.1 HI0.out.2.1 HI0.out.2.2.1 HI0.out.2.2.2 rfl (by decide) _ _ _ rfl (HROW2.out.alloc _) ⟨w2.heap.size, 0, none⟩ 1 1 [.string x.kind] rfl rfl ?c1 ?c2 (by decide) ?c3 ?c4 ?c5 _ rfl ?_)
      case c1 => exact World.news_of_block (heap_alloc_new _ _)
      case c2 => intro u hu; simp at hu; subst hu; rfl
      case c3 => unfold maxLen; omega
      case c4 => omega
      case c5 => simp; omega
      intro g cap' w5 hown5 hgrow5 hat5 hlt5
      have hlow := (HROW2.out.alloc (Obj.cells #[Value.string x.kind] 9)).lt
      have hb5 : Below w.heap.size w w5 := (HB2.out.alloc (by omega) (Obj.cells #[Value.string x.kind] 9)).grown hgrow5 (by simp; omega) (fun k hk => (hlow k hk).1)
      rw [← HTK.out] at hown5
      have H5 := Lib.hid (And.intro hb5 hown5)
      clear hb5 hown5 hgrow5 hat5 hlt5 hlow
      go_wp2_with fail
      go_roundw
      case rel => exact ⟨j + 1, by omega, by go_num, H5.out.1, H5.out.2⟩
      case measure => simp [intOf]; omega
    · have e : j = st.length := by omega
      subst e
      have hrow := HROW.out
      rw [List.take_of_length_le (by simp; omega)] at hrow
      have HROWF := Lib.hid hrow
      clear hrow
      go_wp2_with fail
      refine (kind_any HR.out.1 HR.out.2 wr HIR.out.sees HIR.out.tab).mono ?_
      rintro e w2 ⟨rfl, hb2⟩
      have hs2 := hb2.size
      have hdr : Below w2.heap.size w2 w2.drew := (Below.refl _ _).drew
      have hal := (Below.refl w2.heap.size w2.drew).alloc (Nat.le_refl _) (Obj.cells #[Value.string n.kind] 9)
      have hb02 : Below w.heap.size w w2 := HB.out.trans (hb2.mono hsz)
      have hbal : Below w.heap.size w (w2.drew.alloc (Obj.cells #[Value.string n.kind] 9)) := hb02.trans ((hdr.trans hal).mono (by omega))
      have HAL := Lib.hid (And.intro hbal (owns_kept (owns_kept HROWF.out hb2) (hdr.trans hal)))
      have hm2 := HM.out.later hb02
      have o0 := hm2.bo.cell 0 u rfl
      have of0 := hm2.bo.frozen 0
      have ol := hm2.bo.lt
      have nO := World.new_ne w2 ⟨O, 0, none⟩ o0
      have hO1 := HL.out.o
      have HM2 := Lib.hid hm2
      clear hb2 hdr hal hb02 hbal hm2
      go_wp2_with fail
      go_region_law (first
        | (refine step_append_lies _ (by rfl) _ _ _ (by rfl) w.heap.size 9 i0 (.string ⟨#[]⟩) 1 16 underStrings HI0.out.1 HI0.out.2.1 HI0.out.2.2.1 HI0.out.2.2.2 rfl (by decide) u7 st.length (ks.map Value.string) (by rfl) HAL.out.2 ⟨w2.heap.size, 0, none⟩ 1 1 [.string n.kind] (by rfl) rfl (World.news_of_block (heap_alloc_new w2.drew _)) (fun u hu => by simp at hu; subst hu; rfl) (by decide) (by unfold maxLen; omega) (by omega) (by simp; omega) _ rfl ?_
           intro gr cr w5 hown5 hgrow5 hat5 hlt5
           have hlow := HAL.out.2.lt
           have hb5 : Below w.heap.size w w5 := HAL.out.1.grown hgrow5 (by simp; omega) (fun k hk => (hlow k hk).1)
           have hm5 := HM.out.later hb5
           have p0 := hm5.bo.cell 0 u rfl
           have pf := hm5.bo.frozen 0
           have pl := hm5.bo.lt
           have nO5 := World.new_ne w5 ⟨O, 0, none⟩ p0
           have hs5 := hb5.size
           have H5 := Lib.hid (And.intro hb5 (And.intro hown5 hm5))
           clear hlow hb5 hm5 hown5 hgrow5 hat5 hlt5)
        | (refine step_append_lies _ (by rfl) _ _ _ (by rfl) base 33 j0 (.slice none 0 0) 1 24 underRows HJ0.out.1 HJ0.out.2.1 HJ0.out.2.2.1 HJ0.out.2.2.2 rfl (by decide) u out.length us (by rfl) (H5.out.2.2.rows.alloc _) ⟨w5.heap.size, 0, none⟩ 1 1 [.slice (some ⟨gr, 0, none⟩) (st.length + 1) cr] (by rfl) rfl (World.news_of_block (heap_alloc_new w5 _)) (fun u hu => by simp at hu; subst hu; rfl) (by decide) (by unfold maxLen; omega) (by omega) (by simp; omega) _ rfl ?_
           intro g7 c7 w7 hown7 hgrow7 hat7 hlt7
           have hO7 : Blk w7 O 40 #[u] := (hgrow7.block O (by simp; omega) (fun h => by have := (H5.out.2.2.rows.lt O h.symm).1; omega)).trans ((H5.out.2.2.bo.later ((Below.refl w5.heap.size w5).alloc (Nat.le_refl _) (Obj.cells #[.slice (some ⟨gr, 0, none⟩) (st.length + 1) cr] 33)) pl))
           have q0 := hO7.cell 0 u rfl
           have qf := hO7.frozen 0
           have ql := hO7.lt
           have H7 := Lib.hid (And.intro hown7 (And.intro hgrow7 hat7))
           clear hO7 hown7 hgrow7 hat7 hlt7))
      all_goals
        have hb6 : Below w.heap.size w (w5.alloc (Obj.cells #[.slice (some ⟨gr, 0, none⟩) (st.length + 1) cr] 33)) := H5.out.1.alloc (by omega) _
        have hr6 : (w5.alloc (Obj.cells #[.slice (some ⟨gr, 0, none⟩) (st.length + 1) cr] 33)).ownsRow w.heap.size 9 1 (.slice (some ⟨gr, 0, none⟩) (ks ++ [n.kind]).length cr) (ks ++ [n.kind]).length ((ks ++ [n.kind]).map Value.string) := by
          have h := H5.out.2.1.alloc (Obj.cells #[.slice (some ⟨gr, 0, none⟩) (st.length + 1) cr] 33)
          simpa [hkl] using h
        have hp := StInv.row (g2 := g7) (c2 := c7) HI.out HL.out HM.out hb6 hr6 (by simpa [hkl] using H7.out.1) H7.out.2.1 H7.out.2.2
        have sc := hp.stp.cell 0 (.string stop) rfl
        have HP := Lib.hid hp
        clear hb6 hr6 hp
        go_wp2_with fail
        go_ret
        exact ⟨rfl, HP.out⟩
end Go.Proofs.YtpifflakohlglaaGreatFmt

/- What is proved here: the function that PreorderStack hands to Inspect keeps its word. -/
namespace Go.Proofs.YtpifflakohlglaaGreatFmt
open Go.RowKit Go.Shelf
set_option linter.unusedVariables false
set_option linter.unusedSimpArgs false

set_option maxHeartbeats 1000000 in
set_option maxRecDepth 100000 in
theorem pstk_node {C : Nat → Nat → Value → Prop} {O P Sb Fb base B : Nat} {stop : ByteArray} {w0 : World} (hL : StLay C O P Sb Fb base B) {n : N} {t b : Nat} (hn : n.size ≤ 1000000) (hR : Rep C n (Nd t b)) (st : List N) (out : List (List ByteArray)) (w : World)
    (hI : StInv C O P Sb Fb base B stop w0 (st, out) w) (hs : out.length < 100000) :
    Calls Tryz.prog 62 #[Nd t b, Pt Fb, Pt Sb] w fun e w' => e = .returned (.bool (!(n.kind.toList == stop.toList))) ∧ StInv C O P Sb Fb base B stop w0 ((vStack stop.toList).node 0 n (st, out)).1 w' := by
  obtain ⟨i0, hi, hz0, hz1, hz2⟩ := info_parts infoAst
  have HI0 := Lib.hid (And.intro hi (And.intro hz0 (And.intro hz1 hz2)))
  obtain ⟨v, u, xs, us, hm⟩ := hI.mem
  have f0 := hI.fn.cell 0 _ rfl
  have s0 := hm.bs.cell 0 v rfl
  have sl := hm.bs.lt
  have fl := hI.fn.lt
  have hdep : st.length ≤ out.length := hI.dep
  have HC := Lib.hid (stacks1_any hL hn hR st out v u xs us w hI hm hs)
  have HL := Lib.hid hL
  have HR := Lib.hid (And.intro hn hR)
  have hen : Enters Tryz.prog 27 := enters_of Tryz.func27 (by kernel_rfl) rfl
  have hcf := fun args w => hen args w
  clear hi hz0 hz1 hz2 hL hR hn hI hm hen
  go_enter Tryz.func62, Tryz.ntmps62
  go_wp2_with fail
  refine HC.out.mono ?_
  rintro e w2 ⟨rfl, hI2⟩
  have HI2 := Lib.hid hI2
  clear hI2 f0 s0 sl fl HC hcf
  cases hst : (n.kind.toList == stop.toList) with
  | true =>
    go_wp2_with fail
    go_ret
    have h := HI2.out
    refine ⟨by rw [hst]; rfl, ?_⟩
    have h2 : n.kind.toList = stop.toList := by simpa using hst
    simpa [vStack, h2] using h
  | false =>
    obtain ⟨v2, u2, xs2, us2, hm2⟩ := HI2.out.mem
    have s0 := hm2.bs.cell 0 v2 rfl
    have sf := hm2.bs.frozen 0
    have sl := hm2.bs.lt
    have hbase := HI2.out.hi
    have hSb := HL.out.s
    have HM2 := Lib.hid hm2
    clear hm2
    go_wp2_with (at_builtin; refine wpList_append_lies _ rfl (.tmp 12) (.tmp 14) 58 rfl base 55 i0 .nilIface 1 16 underAst HI0.out.1 HI0.out.2.1 HI0.out.2.2.1 HI0.out.2.2.2 rfl (by decide) _ _ _ rfl (HM2.out.stk.alloc _) ⟨w2.heap.size, 0, none⟩ 1 1 [Nd t b] rfl rfl ?c1 ?c2 (by decide) ?c3 ?c4 ?c5 _ rfl ?_)
    case c1 => exact World.news_of_block (heap_alloc_new _ _)
    case c2 => intro u hu; simp at hu; subst hu; rfl
    case c3 => unfold maxLen; omega
    case c4 => omega
    case c5 => simp; omega
    intro g cap' w5 hown5 hgrow5 hat5 hlt5
    have hal := (Below.refl w2.heap.size w2).alloc (Nat.le_refl _) (Obj.cells #[Nd t b] 55)
    have hI3 := HI2.out.later HL.out hal
    have hm3 := HM2.out.later hal
    have hS5 : Blk w5 Sb 58 #[v2] := (hgrow5.block Sb (by simp; omega) (fun h => by have := (hm3.stk.lt Sb h.symm).1; omega)).trans hm3.bs
    have p0 := hS5.cell 0 v2 rfl
    have pf := hS5.frozen 0
    have pl := hS5.lt
    have hP := hI3.up HL.out hm3 HR.out.2 HR.out.1 (by simp; omega) hown5 hgrow5 (by simpa using hat5)
    have HP := Lib.hid hP
    clear hal hI3 hm3 hS5 hP hown5 hgrow5 hat5 s0 sf
    go_wp2_with fail
    go_ret
    have h := HP.out
    refine ⟨by rw [hst]; rfl, ?_⟩
    have h2 : ¬ n.kind.toList = stop.toList := by simpa using hst
    simpa [vStack, h2] using h
set_option maxHeartbeats 1000000 in
set_option maxRecDepth 100000 in
theorem pstk_nil {C : Nat → Nat → Value → Prop} {O P Sb Fb base B : Nat} {stop : ByteArray} {w0 : World} (hL : StLay C O P Sb Fb base B) (st : List N) (out : List (List ByteArray)) (w : World)
    (hI : StInv C O P Sb Fb base B stop w0 (st, out) w) (hne : st ≠ []) (hs : out.length < 100000) :
    Calls Tryz.prog 62 #[.nilIface, Pt Fb, Pt Sb] w fun e w' => e = .returned (.bool true) ∧ StInv C O P Sb Fb base B stop w0 (st.dropLast, out) w' := by
  obtain ⟨v, u, xs, us, hm⟩ := hI.mem
  obtain ⟨ad, c, rfl, hc, _⟩ := owns_form hm.stk
  have s0 := hm.bs.cell 0 _ rfl
  have sf := hm.bs.frozen 0
  have sl := hm.bs.lt
  have HD := Lib.hid (hI.down hL hm hne)
  have hdep : st.length ≤ out.length := hI.dep
  obtain ⟨k, hk⟩ : ∃ k, st.length = k + 1 := ⟨st.length - 1, by have := List.length_pos_iff.2 hne; omega⟩
  simp only [hk] at s0 sf hc HD
  have hkc : k ≤ c := by omega
  clear hL hI hm
  go_enter Tryz.func62, Tryz.ntmps62
  go_wp2_with fail
  go_ret
  refine ⟨rfl, ?_⟩
  have h := HD.out
  simpa using h
theorem stk_fold (stop : List UInt8) (f d : Nat) : ∀ (l : List N) (S : List N × List (List ByteArray)), (l.foldl (fun s c => wk (vStack stop) f d c s) S).1 = S.1 := by
  intro l
  induction l with
  | nil => intro S; rfl
  | cons x r ih => intro S; rw [List.foldl_cons, ih, wk_stack]
/-- The visitor of PreorderStack keeps its word. -/
theorem vok_stk {C : Nat → Nat → Value → Prop} {O P Sb Fb base B : Nat} {stop : ByteArray} {w0 : World} (hL : StLay C O P Sb Fb base B) :
    VOK (vStack stop.toList) (fun _ => Insp 62 #[Pt Fb, Pt Sb]) C (fun S w => StInv C O P Sb Fb base B stop w0 S w) (fun S => S.2.length) 100000 where
  sees := fun s w b o u hI hc => hI.sees b o u hc
  there := fun d => ⟨_, _, rfl⟩
  node := fun d n t b s w hn hR hI hs => by
    refine ⟨_, _, cm_insp _ _ _ _, ?_⟩
    have he := pstk_node hL hn hR s.1 s.2 w hI hs
    refine (insp_any 62 #[Pt Fb, Pt Sb] (Nd t b) w (enters_of Tryz.func62 (by kernel_rfl) rfl) (fun q w' => q = !(n.kind.toList == stop.toList) ∧ StInv C O P Sb Fb base B stop w0 ((vStack stop.toList).node 0 n s).1 w') (he.mono fun e w' h => ⟨_, h.1, rfl, h.2⟩)).mono ?_
    rintro e w' ⟨q, he, rfl, hI'⟩
    exact .inl ⟨he, hI'⟩
  fin := fun f d n s0 w hgo hI hs => by
    have hne : ((subs n).foldl (fun s c => wk (vStack stop.toList) f (d + 1) c s) ((vStack stop.toList).node d n s0).1).1 ≠ [] := by
      rw [stk_fold]
      have : (!(n.kind.toList == stop.toList)) = true := hgo
      have h2 : ¬ n.kind.toList = stop.toList := by simpa using this
      simp [vStack, h2]
    obtain ⟨s, hs1⟩ : ∃ s, s = (subs n).foldl (fun s c => wk (vStack stop.toList) f (d + 1) c s) ((vStack stop.toList).node d n s0).1 := ⟨_, rfl⟩
    rw [← hs1] at hI hs hne ⊢
    clear hs1
    refine ⟨_, _, cm_insp _ _ _ _, ?_⟩
    have he := pstk_nil hL s.1 s.2 w hI hne hs
    refine (insp_any 62 #[Pt Fb, Pt Sb] .nilIface w (enters_of Tryz.func62 (by kernel_rfl) rfl) (fun q w' => StInv C O P Sb Fb base B stop w0 (s.1.dropLast, s.2) w') (he.mono fun e w' h => ⟨_, h.1, h.2⟩)).mono ?_
    rintro e w' ⟨q, he, hI'⟩
    exact ⟨⟨_, he⟩, hI'⟩
  len_node := fun d n s => by simp [vStack]
  len_fin := fun d s => by simp [vStack]
end Go.Proofs.YtpifflakohlglaaGreatFmt

/- What is proved here: PreorderStack, and Stacks over it. -/
namespace Go.Proofs.YtpifflakohlglaaGreatFmt
open Go.RowKit Go.Shelf
set_option linter.unusedVariables false
set_option linter.unusedSimpArgs false

/-- Rows of texts that a call has made, and the cell that holds them. -/
def StOut (O base B : Nat) (L : List (List ByteArray)) (w w' : World) : Prop := ∃ u us bad, Blk w' O 40 #[u] ∧ w'.ownsRow base 33 1 u L.length us ∧ RowsIn w' base bad L us ∧ Below B w w'
set_option maxHeartbeats 1000000 in
set_option maxRecDepth 100000 in
theorem pstack_any {C : Nat → Nat → Value → Prop} {n : N} {t b O P B : Nat} (hsz : n.size ≤ 400) (hR : Rep C n (Nd t b)) (stop : ByteArray) (w : World) (hO : Blk w O 40 #[.slice none 0 0]) (hP : Blk w P 9 #[.string stop]) (hop : O ≠ P)
    (hC : ∀ b o u, C b o u → b < w.heap.size ∧ b ≠ O) (hS : Sees C w) (hT : TokTab w) (hB : B ≤ O) (h0 : 0 < B) :
    Calls Tryz.prog 26 #[Nd t b, .slice none 0 0, .func (.func 27) #[] #[Pt O, Pt P]] w fun e w' => e = .returned (.tuple #[]) ∧ StOut O w.heap.size B (stacks stop.toList 400 [] n) w w' := by
  let w1 := w.alloc (Obj.cells #[Value.slice none 0 0] 58)
  let w2 := w1.alloc (Obj.cells #[Value.func (.func 27) #[] #[Pt O, Pt P]] 59)
  have s1 : w1.heap.size = w.heap.size + 1 := by simp [w1]
  have s2 : w2.heap.size = w.heap.size + 2 := by simp [w2, s1]
  have hol := hO.lt
  have hpl := hP.lt
  have hb2 : Below w.heap.size w w2 := ((Below.refl w.heap.size w).alloc (Nat.le_refl _) _).alloc (by simp) _
  have bS : Blk w2 w.heap.size 58 #[Value.slice none 0 0] := (Blk.new w _ 58).later ((Below.refl (w.heap.size + 1) _).alloc (by simp) _) (by omega)
  have bF : Blk w2 (w.heap.size + 1) 59 #[Value.func (.func 27) #[] #[Pt O, Pt P]] := by
    have := Blk.new w1 #[Value.func (.func 27) #[] #[Pt O, Pt P]] 59
    simpa [s1] using this
  have hL : StLay C O P w.heap.size (w.heap.size + 1) (w.heap.size + 2) B := ⟨by omega, by omega, by omega, by omega, hop, by omega, by omega, by omega, by omega, fun b o u hc => ⟨by have := (hC b o u hc).1; omega, (hC b o u hc).2, by have := (hC b o u hc).1; omega⟩, hB, by omega, h0⟩
  have hI : StInv C O P w.heap.size (w.heap.size + 1) (w.heap.size + 2) B stop w ([], []) w2 :=
    ⟨⟨.slice none 0 0, .slice none 0 0, [], [], bS, hO.later hb2 hol, World.ownsRow_nil _ _ _ _, World.ownsRow_nil _ _ _ _, ⟨rfl, fun i m hi => by simp at hi⟩, fun g hg => by simp [Value.ownBlock] at hg, rfl, fun i r hi => by simp at hi⟩,
      bF, hP.later hb2 hpl, fun b o u hc => (hb2.cell (p := ⟨b, o, none⟩) (hC b o u hc).1).trans (hS b o u hc), fun i t hi => by
      obtain ⟨x, hx, hc⟩ := hT i t hi
      exact ⟨x, hx, (hb2.cell (p := ⟨0, 61 + i, none⟩) (by show 0 < _; omega)).trans hc⟩, hb2.mono (by omega), by omega, Nat.le_refl _⟩
  have hV := vok_stk hL (stop := stop) (w0 := w)
  have hWk := walk_ok hV 400 (by omega) 0 n t b ([], []) w2 hsz hR hI (by have := cost_small hR hsz 400; simp only [List.length_nil]; omega)
  have HIN := Lib.hid (inspect_any 62 _ (Nd t b) w2 _ hWk)
  have s0 := bS.cell 0 _ rfl
  have sl := bS.lt
  clear hWk hV hI hL bS bF hb2 hO hP hC hS hT hR s1 s2
  simp only [w2, w1] at *
  go_enter Tryz.func26, Tryz.ntmps26
  go_wp2_with fail
  refine HIN.out.mono ?_
  rintro e w5 ⟨rfl, hI5⟩
  rw [wk_stack] at hI5
  simp only [List.nil_append, List.map_nil] at hI5
  obtain ⟨v, u, xs, us, hm⟩ := hI5.mem
  obtain ⟨ad, c, rfl, hc, _⟩ := owns_form hm.stk
  have t0 := hm.bs.cell 0 _ rfl
  have tl := hm.bs.lt
  have RES : Hid (StOut O w.heap.size B (stacks stop.toList 400 [] n) w w5) := Lib.hid ⟨u, us, _, hm.bo, own_mono hm.rows (by omega), ⟨hm.ins.1, fun i r hi => by
    obtain ⟨g, cap, h1, h2, h3, h4⟩ := hm.ins.2 i r hi
    exact ⟨g, cap, h1, h2, by omega, h4⟩⟩, hI5.low⟩
  clear hI5 hm HIN
  simp only [List.length_nil] at t0
  go_wp2_with fail
  refine bodyPost_end (results_none rfl _ _ _) rfl ⟨rfl, RES.out⟩
def StacksPost (w : World) (L : List (List ByteArray)) (e : Ending) (w' : World) : Prop := ∃ u us bad, e = .returned u ∧ w'.ownsRow w.heap.size 33 1 u L.length us ∧ RowsIn w' w.heap.size bad L us ∧ Below w.heap.size w w'
set_option maxHeartbeats 1000000 in
set_option maxRecDepth 100000 in
theorem stacks_any (n : N) (v : Value) (stop : ByteArray) (w : World) (hs : shapedB n = true) (hk : KidsAt (· < w.heap.size) w v n.kids) (hT : TokTab w) (h0 : 0 < w.heap.size) :
    Calls Tryz.prog 16 #[n.val v, .string stop] w (StacksPost w (stacks stop.toList 400 [] n)) := by
  have hsz := shaped_small hs
  have HB := fun w' (hk' : KidsAt (· < w'.heap.size) w' v n.kids) (hT' : TokTab w') (h0' : 0 < w'.heap.size) => build_any n v w' hs hk' hT' h0'
  have HB := Lib.hid HB
  obtain ⟨a, cap, rfl, hcap, hel⟩ := hk.shape
  have HK := Lib.hid hk
  have HT := Lib.hid hT
  let w1 := w.alloc (Obj.cells #[Value.string n.kind, Value.string n.text, Value.slice a n.kids.length cap] 24)
  let w2 := w1.alloc (Obj.cells #[Value.string stop] 9)
  let w3 := w2.alloc (Obj.cells #[Value.slice none 0 0] 40)
  have s1 : w1.heap.size = w.heap.size + 1 := by simp [w1]
  have s2 : w2.heap.size = w.heap.size + 2 := by simp [w2, s1]
  have s3 : w3.heap.size = w.heap.size + 3 := by simp [w3, s2]
  have hb3 : Below w.heap.size w w3 := (((Below.refl w.heap.size w).alloc (Nat.le_refl _) _).alloc (by simp) _).alloc (by simp; try omega) _
  have bN : Blk w3 w.heap.size 24 #[Value.string n.kind, Value.string n.text, Value.slice a n.kids.length cap] := ((Blk.new w _ 24).later ((Below.refl (w.heap.size + 1) _).alloc (by simp) _) (by omega)).later ((Below.refl (w.heap.size + 1) _).alloc (by simp; try omega) _) (by omega)
  have bS : Blk w3 (w.heap.size + 1) 9 #[Value.string stop] := by
    have := (Blk.new w1 #[Value.string stop] 9).later ((Below.refl (w.heap.size + 2) _).alloc (by simp [s1, w2, w1]) (Obj.cells #[Value.slice none 0 0] 40)) (by simp [s1])
    simpa [s1] using this
  have bO : Blk w3 (w.heap.size + 2) 40 #[Value.slice none 0 0] := by
    have := Blk.new w2 #[Value.slice none 0 0] 40
    simpa [s2] using this
  have hT3 : TokTab w3 := fun i t hi => by
    obtain ⟨x, hx, hc⟩ := hT i t hi
    exact ⟨x, hx, (hb3.cell (p := ⟨0, 61 + i, none⟩) h0).trans hc⟩
  have e00 := bN.cell 0 _ rfl
  have e10 := bN.cell 1 _ rfl
  have e20 := bN.cell 2 _ rfl
  have en0 := bN.lt
  have HB3 := Lib.hid hb3
  have BS := Lib.hid bS
  have BO := Lib.hid bO
  have HT3 := Lib.hid hT3
  have S3 := Lib.hid s3
  clear hb3 bN bS bO hT3 hk hT hel
  simp only [w3, w2, w1] at *
  clear s1 s2 s3
  unfold N.val
  go_enter Tryz.func16, Tryz.ntmps16
  go_wp2_with fail
  refine (HB.out _ (HK.out.later HB3.out) HT3.out (by have := S3.out; omega)).mono ?_
  rintro e w4 ⟨t, b, rfl, ht, hb4, hR⟩
  have s3 := S3.out
  have hsz4 := hb4.size
  have bS4 := BS.out.later hb4 BS.out.lt
  have bO4 := BO.out.later hb4 BO.out.lt
  rw [s3] at hR
  have hIn := pstack_any (O := w.heap.size + 2) (P := w.heap.size + 1) (B := w.heap.size) hsz hR stop w4 bO4 bS4 (by omega) (fun b o u hc => ⟨hc.1.2, by have := hc.1.1; omega⟩) (fun b o u hc => hc.2) (fun i t hi => by
      obtain ⟨x, hx, hc⟩ := HT3.out i t hi
      exact ⟨x, hx, (hb4.cell (p := ⟨0, 61 + i, none⟩) (by show 0 < _; omega)).trans hc⟩) (by omega) h0
  have HIN := Lib.hid hIn
  have HB4 := Lib.hid (HB3.out.trans (hb4.mono (by omega)))
  clear hIn bS4 bO4 hR hb4 ht
  go_wp2_with fail
  refine HIN.out.mono ?_
  rintro e w5 ⟨rfl, u, us, bad, hu, hrows, hins, hb5⟩
  have o0 := hu.cell 0 u rfl
  have of0 := hu.frozen 0
  have ol := hu.lt
  have hbase : w.heap.size ≤ w4.heap.size := by omega
  have RES := Lib.hid (And.intro (own_mono hrows hbase) (And.intro hins (HB4.out.trans hb5)))
  clear hu hrows hins hb5 HB HK HT HB3 BS BO HT3 HIN HB4
  go_wp2_with fail
  go_ret
  refine ⟨u, us, bad, rfl, RES.out.1, ⟨RES.out.2.1.1, fun i r hi => ?_⟩, RES.out.2.2⟩
  obtain ⟨g, cap, h1, h2, h3, h4⟩ := RES.out.2.1.2 i r hi
  exact ⟨g, cap, h1, h2, by omega, h4⟩
end Go.Proofs.YtpifflakohlglaaGreatFmt

/- What is proved here: how many rows Stacks has, and how long they are. -/
namespace Go.Proofs.YtpifflakohlglaaGreatFmt
open Go.RowKit Go.Shelf
set_option linter.unusedVariables false

theorem stacks_short (stop : List UInt8) (f : Nat) : ∀ (up : List ByteArray) (n : N) (r : List ByteArray), r ∈ stacks stop f up n → r.length ≤ up.length + f := by
  induction f with
  | zero => intro up n r h; simp [stacks] at h
  | succ f ih =>
    intro up n r h
    simp only [stacks] at h
    rcases List.mem_cons.1 h with rfl | h
    · simp
    · split at h
      · simp at h
      · obtain ⟨c, _, hc⟩ := List.mem_flatMap.1 h
        have := ih _ c r hc
        simp at this
        omega
theorem stacks_le (stop : List UInt8) (f : Nat) : ∀ (up : List ByteArray) (n : N), (stacks stop f up n).length ≤ (kinds f n).length := by
  induction f with
  | zero => intro up n; simp [stacks, kinds]
  | succ f ih =>
    intro up n
    simp only [stacks, kinds, List.length_cons]
    have h : ∀ (u : List ByteArray) (l : List N), (l.flatMap (stacks stop f u)).length ≤ (l.flatMap (kinds f)).length := by
      intro u l
      induction l with
      | nil => simp
      | cons x r ihr => rw [List.flatMap_cons, List.flatMap_cons, List.length_append, List.length_append]; have := ih u x; omega
    split
    · simp
    · have := h (up ++ [n.kind]) (subs n)
      omega
end Go.Proofs.YtpifflakohlglaaGreatFmt

