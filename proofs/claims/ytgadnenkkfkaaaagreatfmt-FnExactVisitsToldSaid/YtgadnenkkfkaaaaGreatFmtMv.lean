/- What is proved here: the visitor of Visits, Visits, and the comparison of places. Conditions: each theorem names its own. -/
import Derived.Deep.RegionHeld3
import Derived.Deep.CutRange
import Derived.Test.YtgadnenkkfkaaaaGreatFmtMj
set_option linter.all false
set_option linter.unusedVariables false
set_option linter.unusedSimpArgs false
/- What is proved here: the visitor of Visits keeps its word. -/
namespace Go.Proofs.YtgadnenkkfkaaaaGreatFmt
open Go.RowKit Go.Shelf
set_option linter.unusedVariables false
set_option linter.unusedSimpArgs false
attribute [local go_sem ↓] Go.wp_at_zero Go.wp_at_succ

abbrev wd (d : Nat) : Value := .int .i64 (IntKind.i64.wrap d)
/-- A visitor. -/
abbrev Vtor (O : Nat) (stop : ByteArray) (d : Nat) : Value := .agg #[wd d, .string stop, Pt O]
abbrev VV (O : Nat) (stop : ByteArray) (d : Nat) : Value := .iface 45 (Vtor O stop d)
def plc (p : ByteArray × Nat) : List Value := [.string p.1, wd p.2, wd p.2]
theorem plc_len (s : List (ByteArray × Nat)) : (s.flatMap plc).length = s.length * 3 := by
  induction s with
  | nil => rfl
  | cons x r ih => rw [List.flatMap_cons, List.length_append, ih]; simp [plc]; omega
theorem plc_ones (s : List (ByteArray × Nat)) : ∀ u ∈ s.flatMap plc, u.oneCell' = true := by
  intro u hu
  obtain ⟨p, _, hp⟩ := List.mem_flatMap.1 hu
  simp only [plc, List.mem_cons, List.not_mem_nil, or_false] at hp
  rcases hp with rfl | rfl | rfl <;> rfl
theorem cm_vis (O : Nat) (stop : ByteArray) (d : Nat) (x : Value) (w : World) : (callMethod (VV O stop d) "Visit" #[x]).run Tryz.prog w = .ok (.enter 123 #[Vtor O stop d, x]) w := by kernel_rfl
theorem underPlaces : Tryz.prog.underlying 27 = some (.slice 29) := by kernel_rfl
theorem infoPlace : (Tryz.prog.info? 29).map (fun i => (i.zero, i.size, i.bytes)) = some (some (.agg #[.string ⟨#[]⟩, .int .i64 0, .int .i64 0]), 3, 32) := by kernel_rfl
theorem ret_vv (O : Nat) (stop : ByteArray) (d : Nat) (z : Int) (hz : IntKind.i64.wrap (d : Int) = z) : Ending.returned (.iface 45 (.agg #[.int .i64 (wrap64 (z + 1)), .string stop, Pt O])) = .returned (VV O stop (d + 1)) := by
  have h : wrap64 (z + 1) = IntKind.i64.wrap ((d + 1 : Nat) : Int) := by
    subst hz
    rw [IntKind.wrap_i64, IntKind.wrap_i64]
    unfold wrap64
    omega
  rw [h]

def visRet (O : Nat) (stop : ByteArray) (d : Nat) (k : ByteArray) : Value := if k.toList == stop.toList then .nilIface else VV O stop (d + 1)
/-- What Visits keeps between two calls of its visitor. -/
structure VsInv (C : Nat → Nat → Value → Prop) (O base B : Nat) (w0 : World) (s : List (ByteArray × Nat)) (w : World) : Prop where
  out : ∃ v, Blk w O 27 #[v] ∧ w.ownsRow base 29 3 v s.length (s.flatMap plc)
  sees : Sees C w
  tab : TokTab w
  low : Below B w0 w
  hi : base ≤ w.heap.size
/-- Where its blocks lie. -/
structure VsLay (C : Nat → Nat → Value → Prop) (O base B : Nat) : Prop where
  o : O < base
  c : ∀ b o u, C b o u → b < base ∧ b ≠ O
  bo : B ≤ O
  b0 : 0 < B
theorem VsInv.later {C : Nat → Nat → Value → Prop} {O base B : Nat} {w0 w w' : World} {s : List (ByteArray × Nat)} (h : VsInv C O base B w0 s w) (hL : VsLay C O base B) (hb : Below w.heap.size w w') : VsInv C O base B w0 s w' := by
  obtain ⟨v, h1, h2⟩ := h.out
  have hhi := h.hi
  have ho := hL.o
  have hbo := hL.bo
  have hb0 := hL.b0
  refine ⟨⟨v, h1.later hb h1.lt, owns_kept h2 hb⟩, h.sees.later hb, fun i t hi => ?_, h.low.trans (hb.mono (by omega)), Nat.le_trans h.hi hb.size⟩
  obtain ⟨x, hx, hc⟩ := h.tab i t hi
  exact ⟨x, hx, (hb.cell (p := ⟨0, 61 + i, none⟩) (by show 0 < w.heap.size; omega)).trans hc⟩
theorem VsInv.push {C : Nat → Nat → Value → Prop} {O base B : Nat} {w0 w w' : World} {s : List (ByteArray × Nat)} (h : VsInv C O base B w0 s w) (hL : VsLay C O base B) {v : Value} {g cap : Nat} {p : ByteArray × Nat}
    (hv : Blk w O 27 #[v]) (hown : w.ownsRow base 29 3 v s.length (s.flatMap plc))
    (hown' : w'.ownsRow base 29 3 (.slice (some ⟨g, 0, none⟩) (s.length + 1) cap) (s.length + 1) (s.flatMap plc ++ plc p)) (hg : w.grownBy w' v.ownBlock) :
    VsInv C O base B w0 (s ++ [p]) (w'.setCell ⟨O, 0, none⟩ (.slice (some ⟨g, 0, none⟩) (s.length + 1) cap)) := by
  have hlow := hown.lt
  have keep : ∀ b, b < base → w'.heap[b]? = w.heap[b]? := fun b hb => hg.block b (Nat.lt_of_lt_of_le hb h.hi) (fun e => by have := (hlow b e.symm).1; omega)
  have keep2 : ∀ b, b < base → b ≠ O → (w'.setCell ⟨O, 0, none⟩ (.slice (some ⟨g, 0, none⟩) (s.length + 1) cap)).heap[b]? = w.heap[b]? := fun b hb hne => (heap_setCell_other _ _ b _ hne).trans (keep b hb)
  have ho := hL.o
  have hbo := hL.bo
  have hb0 := hL.b0
  have hO : Blk w' O 27 #[v] := (keep O ho).trans hv
  refine ⟨⟨_, by simpa using hO.set 0 (.slice (some ⟨g, 0, none⟩) (s.length + 1) cap), ?_⟩, fun b o u hc => ?_, fun i t hi => ?_, ?_, ?_⟩
  · have := ownsRow_setCell_below (a := ⟨O, 0, none⟩) hown' ho (.slice (some ⟨g, 0, none⟩) (s.length + 1) cap)
    simpa [List.flatMap_append] using this
  · obtain ⟨c1, c2⟩ := hL.c b o u hc
    exact (World.cell?_of_block (keep2 b c1 c2)).trans (h.sees b o u hc)
  · obtain ⟨x, hx, hc⟩ := h.tab i t hi
    exact ⟨x, hx, (World.cell?_of_block (keep2 0 (by omega) (by omega))).trans hc⟩
  · exact (h.low.grown hg (Nat.le_trans (by omega) h.hi) (fun k hk => by have := (hlow k hk).1; omega)).setCell (by show B ≤ O; omega) _
  · have := hg.size
    have := h.hi
    simp
    omega
end Go.Proofs.YtgadnenkkfkaaaaGreatFmt

/- What is proved here: the visitor of Visits keeps a place. -/
namespace Go.Proofs.YtgadnenkkfkaaaaGreatFmt
open Go.RowKit Go.Shelf
set_option linter.unusedVariables false
set_option linter.unusedSimpArgs false
attribute [local go_sem ↓] Go.wp_at_zero Go.wp_at_succ

/-- What the region leaves. -/
def CutVis (C : Nat → Nat → Value → Prop) (O base B : Nat) (w0 : World) (s : List (ByteArray × Nat)) (b : Nat) (z : Int) (stop : ByteArray) (w : World) : Prop := VsInv C O base B w0 s w ∧ Blk w b 45 #[.int .i64 z, .string stop, Pt O]
set_option maxHeartbeats 40000000 in
set_option maxRecDepth 100000 in
theorem vis1_any {C : Nat → Nat → Value → Prop} {O base B : Nat} {w0 : World} (hL : VsLay C O base B) (stop : ByteArray) (d : Nat) (z : Int) (hz : IntKind.i64.wrap (d : Int) = z) (x : Value) (k : ByteArray) (s : List (ByteArray × Nat)) (w : World) (hI : VsInv C O base B w0 s w) (hs : s.length < 100000)
    (hk : ∀ W, Below w.heap.size w W → Calls Tryz.prog 29 #[x] W fun e w' => e = .returned (.string k) ∧ Below W.heap.size W w') :
    Calls Tryz.prog 123 #[.agg #[.int .i64 z, .string stop, Pt O], x] w fun e w' => e = .returned (visRet O stop d k) ∧ VsInv C O base B w0 (s ++ [(k, d)]) w' := by
  obtain ⟨i0, hi, hz0, hz1, hz2⟩ := info_parts infoPlace
  have HI0 := Lib.hid (And.intro hi (And.intro hz0 (And.intro hz1 hz2)))
  have hbW : Below w.heap.size w (w.alloc (Obj.cells #[(.int .i64 z), .string stop, Pt O] 45)) := (Below.refl w.heap.size w).alloc (Nat.le_refl _) _
  have BN : Blk (w.alloc (Obj.cells #[(.int .i64 z), .string stop, Pt O] 45)) w.heap.size 45 #[(.int .i64 z), .string stop, Pt O] := Blk.new w _ _
  have hsw : w.heap.size + 1 ≤ (w.alloc (Obj.cells #[(.int .i64 z), .string stop, Pt O] 45)).heap.size := by simp
  have HBN := Lib.hid BN
  have HBW := Lib.hid hbW
  have HL := Lib.hid hL
  have HI := Lib.hid hI
  have HK := Lib.hid hk
  have HZ := Lib.hid hz
  clear hi hz0 hz1 hz2 hL hI hk BN hbW hz
  go_enter Tryz.func123, Tryz.ntmps123
  go_wp2_with fail
  generalize w.alloc (Obj.cells #[(.int .i64 z), .string stop, Pt O] 45) = w1 at HBN HBW hsw ⊢
  refine (HK.out w1 HBW.out).mono ?_
  rintro e w2 ⟨rfl, hb2⟩
  have hs2 := hb2.size
  have hb02 : Below w.heap.size w w2 := HBW.out.trans (hb2.mono (by omega))
  have hI2 := HI.out.later HL.out hb02
  have BN2 := HBN.out.later hb2 (by omega)
  obtain ⟨v, hv, hown⟩ := HI.out.out
  have hne : ∀ g, v.ownBlock = some g → g < w.heap.size := fun g hg => (hown.lt g hg).2
  have HNE := Lib.hid hne
  have hv := hv.later hb02 hv.lt
  have hown := owns_kept hown hb02
  have hhi := hI2.hi
  have hOb := HL.out.o
  have hOw : O ≠ w.heap.size := by have := HI.out.hi; omega
  have hOw2 : w.heap.size ≠ O := fun e => hOw e.symm
  have hal := (Below.refl w2.heap.size w2.drew).alloc (Nat.le_refl _) (Obj.cells #[Value.string k, (.int .i64 z), (.int .i64 z)] 29)
  have hdr : Below w2.heap.size w2 w2.drew := (Below.refl _ _).drew
  have HAL := Lib.hid (hdr.trans hal)
  have o0 := hv.cell 0 v rfl
  have of0 := hv.frozen 0
  have ol := hv.lt
  have v0 := BN2.cell 0 _ rfl
  have v1 := BN2.cell 1 _ rfl
  have v2 := BN2.cell 2 _ rfl
  have vl := BN2.lt
  have nO := World.new_ne w2 ⟨O, 0, none⟩ o0
  have nV0 := World.new_ne w2 ⟨w.heap.size, 0, none⟩ v0
  have HBN2 := Lib.hid BN2
  have HI2 := Lib.hid hI2
  have HV := Lib.hid hv
  have HOWN := Lib.hid (owns_kept hown HAL.out)
  clear hI2 hv hown hb2 BN2 hal hdr hb02 hne
  go_wp2_with fail
  go_cut [] from 8 to 22 (fun wc => CutVis C O base B w0 (s ++ [(k, d)]) w.heap.size z stop wc)
  case first =>
    go_region_law ((refine step_append_lies _ (by rfl) _ _ _ (by rfl) base 29 i0 (.agg #[.string ⟨#[]⟩, .int .i64 0, .int .i64 0]) 3 32 underPlaces HI0.out.1 HI0.out.2.1 HI0.out.2.2.1 HI0.out.2.2.2 rfl (by decide) v s.length (s.flatMap plc) (by rfl) HOWN.out ⟨w2.heap.size, 0, none⟩ 1 1 [.string k, .int .i64 z, .int .i64 z] (by rfl) rfl (World.news_of_block (heap_alloc_new w2.drew _)) (fun u hu => by simp at hu; rcases hu with rfl | rfl <;> rfl) (by decide) (by unfold maxLen; omega) (by omega) (by simp; omega) _ rfl ?_; intro g cap' w5 hown5 hgrow5 hat5 hlt5; have hO5 : Blk w5 O 27 #[v] := (hgrow5.block O (by simp; omega) (fun h => by have := (HOWN.out.lt O h.symm).1; omega)).trans (HV.out.later HAL.out ol); have p0 := hO5.cell 0 v rfl; have pf := hO5.frozen 0; have pl := hO5.lt; have hN5 : Blk w5 w.heap.size 45 #[(.int .i64 z), .string stop, Pt O] := (hgrow5.block w.heap.size (by simp; omega) (fun h => Nat.lt_irrefl _ (HNE.out _ h.symm))).trans (HBN2.out.later HAL.out vl); have q0 := hN5.cell 0 _ rfl; have q1 := hN5.cell 1 _ rfl; have q2 := hN5.cell 2 _ rfl; have ql := hN5.lt; have HN5 := Lib.hid hN5; have HO5 := Lib.hid (And.intro hown5 hgrow5); clear hO5 hN5 hown5))
    all_goals
      have HP := Lib.hid ((HI2.out.later HL.out HAL.out).push HL.out (p := (k, d)) (HV.out.later HAL.out ol) HOWN.out (by simpa [plc, wd, HZ.out] using HO5.out.1) HO5.out.2)
      have HQ := Lib.hid (HN5.out.other O 0 (.slice (some ⟨g, 0, none⟩) (s.length + 1) cap') hOw2)
      clear hgrow5 hat5
      go_wp2_with fail
      go_meet
      exact ⟨HP.out, HQ.out⟩
  case rest =>
    obtain ⟨hP, hQ⟩ := hcut
    have HP := Lib.hid hP
    have q0 := hQ.cell 0 _ rfl
    have q1 := hQ.cell 1 _ rfl
    have q2 := hQ.cell 2 _ rfl
    have ql := hQ.lt
    clear hP hQ
    cases hst : (k.toList == stop.toList) with
    | true =>
      go_wp2_with fail
      go_ret
      exact ⟨by rw [show visRet O stop d k = .nilIface by simp [visRet, hst]]; rfl, HP.out⟩
    | false =>
      go_wp2_with fail
      go_ret
      exact ⟨by rw [show visRet O stop d k = VV O stop (d + 1) by simp [visRet, hst]]; exact ret_vv O stop d z HZ.out, HP.out⟩
end Go.Proofs.YtgadnenkkfkaaaaGreatFmt

/- What is proved here: the visitor of Visits keeps its word. -/
namespace Go.Proofs.YtgadnenkkfkaaaaGreatFmt
open Go.RowKit Go.Shelf
set_option linter.unusedVariables false
set_option linter.unusedSimpArgs false
attribute [local go_sem ↓] Go.wp_at_zero Go.wp_at_succ

theorem vok_vis {C : Nat → Nat → Value → Prop} {O base B : Nat} {stop : ByteArray} {w0 : World} (hL : VsLay C O base B) :
    VOK (vVis stop.toList) (fun d => VV O stop d) C (fun s w => VsInv C O base B w0 s w) List.length 100000 where
  sees := fun s w b o u hI hc => hI.sees b o u hc
  there := fun d => ⟨_, _, rfl⟩
  node := fun d n t b s w hn hR hI hs => by
    refine ⟨_, _, cm_vis _ _ _ _ _, ?_⟩
    refine (vis1_any hL stop d _ rfl (Nd t b) n.kind s w hI hs fun W hb => ?_).mono ?_
    · have hI' := hI.later hL hb
      exact kind_any hn hR W hI'.sees hI'.tab
    · rintro e w' ⟨rfl, hI'⟩
      refine .inl ⟨?_, hI'⟩
      by_cases h : (n.kind.toList == stop.toList) = true
      · simp [visRet, vVis, h]
      · simp [visRet, vVis, h]
  fin := fun d s w hI hs => by
    refine ⟨_, _, cm_vis _ _ _ _ _, ?_⟩
    refine (vis1_any hL stop d _ rfl .nilIface ⟨#[]⟩ s w hI hs fun W hb => (kind_nil W).mono fun e w' h => ⟨h.1, by rw [h.2]; exact Below.refl _ _⟩).mono ?_
    rintro e w' ⟨rfl, hI'⟩
    exact ⟨⟨_, rfl⟩, hI'⟩
  len_node := fun d n s => by simp [vVis]
  len_fin := fun d s => by simp [vVis]
end Go.Proofs.YtgadnenkkfkaaaaGreatFmt

/- What is proved here: Visits over Walk. -/
namespace Go.Proofs.YtgadnenkkfkaaaaGreatFmt
open Go.RowKit Go.Shelf
set_option linter.unusedVariables false
set_option linter.unusedSimpArgs false

set_option maxHeartbeats 1000000 in
set_option maxRecDepth 100000 in
theorem visits_any (n : N) (v : Value) (stop : ByteArray) (w : World) (hs : shapedB n = true) (hk : KidsAt (· < w.heap.size) w v n.kids) (hT : TokTab w) (h0 : 0 < w.heap.size) :
    Calls Tryz.prog 11 #[n.val v, .string stop] w fun e w' => ∃ v', e = .returned v' ∧ w'.ownsRow w.heap.size 29 3 v' (visits stop.toList 400 0 n).length ((visits stop.toList 400 0 n).flatMap plc) ∧ Below w.heap.size w w' := by
  have hsz := shaped_small hs
  have HB := fun w' (hk' : KidsAt (· < w'.heap.size) w' v n.kids) (hT' : TokTab w') (h0' : 0 < w'.heap.size) => build_any n v w' hs hk' hT' h0'
  have HB := Lib.hid HB
  obtain ⟨a, cap, rfl, hcap, hel⟩ := hk.shape
  have HK := Lib.hid hk
  have HT := Lib.hid hT
  let w1 := w.alloc (Obj.cells #[Value.string n.kind, Value.string n.text, Value.slice a n.kids.length cap] 24)
  let w3 := w1.alloc (Obj.cells #[Value.slice none 0 0] 27)
  have s1 : w1.heap.size = w.heap.size + 1 := by simp [w1]
  have s3 : w3.heap.size = w.heap.size + 2 := by simp [w3, s1]
  have hb3 : Below w.heap.size w w3 := ((Below.refl w.heap.size w).alloc (Nat.le_refl _) _).alloc (by simp) _
  have bN : Blk w3 w.heap.size 24 #[Value.string n.kind, Value.string n.text, Value.slice a n.kids.length cap] := (Blk.new w _ 24).later ((Below.refl (w.heap.size + 1) _).alloc (by simp) _) (by omega)
  have bO : Blk w3 (w.heap.size + 1) 27 #[Value.slice none 0 0] := by
    have := Blk.new w1 #[Value.slice none 0 0] 27
    simpa [s1] using this
  have hT3 : TokTab w3 := fun i t hi => by
    obtain ⟨x, hx, hc⟩ := hT i t hi
    exact ⟨x, hx, (hb3.cell (p := ⟨0, 61 + i, none⟩) h0).trans hc⟩
  have e00 := bN.cell 0 _ rfl
  have e10 := bN.cell 1 _ rfl
  have e20 := bN.cell 2 _ rfl
  have en0 := bN.lt
  have HB3 := Lib.hid hb3
  have BO := Lib.hid bO
  have HT3 := Lib.hid hT3
  have S3 := Lib.hid s3
  clear hb3 bN bO hT3 hk hT hel
  simp only [w3, w1] at *
  clear s1 s3
  unfold N.val
  go_enter Tryz.func11, Tryz.ntmps11
  go_wp2_with fail
  refine (HB.out _ (HK.out.later HB3.out) HT3.out (by have := S3.out; omega)).mono ?_
  rintro e w4 ⟨t, b, rfl, ht, hb4, hR⟩
  have s3 := S3.out
  have hsz4 := hb4.size
  have bO4 := BO.out.later hb4 BO.out.lt
  have hL : VsLay (At (Bt (w.heap.size + 2) w4.heap.size) w4) (w.heap.size + 1) w4.heap.size w.heap.size := ⟨by omega, fun b o u hc => ⟨hc.1.2, by have := hc.1.1; omega⟩, by omega, h0⟩
  rw [s3] at hR
  have hI : VsInv (At (Bt (w.heap.size + 2) w4.heap.size) w4) (w.heap.size + 1) w4.heap.size w.heap.size w [] w4 :=
    ⟨⟨.slice none 0 0, bO4, World.ownsRow_nil _ _ _ _⟩, fun b o u hc => hc.2, fun i t hi => by
      obtain ⟨x, hx, hc⟩ := HT3.out i t hi
      exact ⟨x, hx, (hb4.cell (p := ⟨0, 61 + i, none⟩) (by show 0 < _; omega)).trans hc⟩, HB3.out.trans (hb4.mono (by omega)), Nat.le_refl _⟩
  have hV := vok_vis hL (stop := stop) (w0 := w)
  have hWk := walk_ok hV 400 (by omega) 0 n t b [] w4 hsz hR hI (by have := cost_small hR hsz 400; simp only [List.length_nil]; omega)
  have hz0 : IntKind.i64.wrap ((0 : Nat) : Int) = 0 := by rw [IntKind.wrap_i64]; rfl
  have hWk' : Calls Tryz.prog 24 #[.iface 45 (.agg #[.int .i64 0, .string stop, Pt (w.heap.size + 1)]), Nd t b] w4 fun e w' => e = .returned (.tuple #[]) ∧ VsInv (At (Bt (w.heap.size + 2) w4.heap.size) w4) (w.heap.size + 1) w4.heap.size w.heap.size w (wk (vVis stop.toList) 400 0 n []) w' := by
    have h := hWk
    simp only [VV, Vtor, wd] at h
    rw [hz0] at h
    exact h
  have HIN := Lib.hid hWk'
  have HL := Lib.hid hL
  clear hWk hWk' hV hI hL bO4 hR hb4 ht hz0
  go_wp2_with fail
  refine HIN.out.mono ?_
  rintro e w5 ⟨rfl, hI5⟩
  rw [wk_vis] at hI5
  simp only [List.nil_append] at hI5
  obtain ⟨v', hv', hown⟩ := hI5.out
  have o0 := hv'.cell 0 v' rfl
  have of0 := hv'.frozen 0
  have ol := hv'.lt
  have RES := Lib.hid (And.intro hown hI5.low)
  have hbase : w.heap.size ≤ w4.heap.size := by omega
  clear hI5 hv' hown HB HK HT HB3 BO HT3 HIN HL
  go_wp2_with fail
  go_ret
  exact ⟨v', rfl, own_mono RES.out.1 hbase, RES.out.2⟩
end Go.Proofs.YtgadnenkkfkaaaaGreatFmt

/- What is proved here: slices.Equal says yes of two slices of places that read alike. -/
namespace Go.Proofs.YtgadnenkkfkaaaaGreatFmt
open Go.RowKit Go.Shelf
set_option linter.unusedVariables false
set_option linter.unusedSimpArgs false

set_option maxHeartbeats 2000000 in
set_option maxRecDepth 100000 in
theorem eq_places (n : Nat) (v v' : Value) (F : Nat → ByteArray) (A B : Nat → Int) (w : World) (hn : n ≤ 1000000)
    (h : RowAt w 3 v n (fun i j => if j = 0 then Value.string (F i) else if j = 1 then .int .i64 (A i) else .int .i64 (B i)))
    (h' : RowAt w 3 v' n (fun i j => if j = 0 then Value.string (F i) else if j = 1 then .int .i64 (A i) else .int .i64 (B i))) :
    Calls Tryz.prog 10 #[v, v'] w fun e w' => e = .returned (.bool true) ∧ ∃ q, w' = w.drewN q := by
  obtain ⟨a, cap, rfl, hel⟩ := h
  obtain ⟨a', cap', rfl, hel'⟩ := h'
  have H1 := Lib.hid hel
  have H2 := Lib.hid hel'
  clear hel hel'
  go_enter Tryz.func10, Tryz.ntmps10
  go_wp2_with fail
  go_loopw [13] (fun i wr => ∃ j q : Nat, j ≤ n ∧ i = .int .i64 j ∧ wr = w.drewN q) (fun i _ => n - (intOf i).toNat)
  case atStart => exact ⟨0, 0, Nat.zero_le _, rfl, rfl⟩
  case round =>
    obtain ⟨j, q, hj, rfl, rfl⟩ := hrel
    by_cases hjl : j < n
    · obtain ⟨b, o, rfl, c0⟩ := H1.out j hjl
      obtain ⟨b', o', rfl, c0'⟩ := H2.out j hjl
      have g0 : w.cell? ⟨b, o + j * 3, none⟩ = some (Value.string (F j)) := by simpa using c0 0 (by omega)
      have g1 : w.cell? ⟨b, o + j * 3 + 1, none⟩ = some (Value.int .i64 (A j)) := by simpa using c0 1 (by omega)
      have g2 : w.cell? ⟨b, o + j * 3 + 2, none⟩ = some (Value.int .i64 (B j)) := by simpa using c0 2 (by omega)
      have k0 : w.cell? ⟨b', o' + j * 3, none⟩ = some (Value.string (F j)) := by simpa using c0' 0 (by omega)
      have k1 : w.cell? ⟨b', o' + j * 3 + 1, none⟩ = some (Value.int .i64 (A j)) := by simpa using c0' 1 (by omega)
      have k2 : w.cell? ⟨b', o' + j * 3 + 2, none⟩ = some (Value.int .i64 (B j)) := by simpa using c0' 2 (by omega)
      clear c0 c0'
      generalize F j = x at g0 k0
      generalize A j = y at g1 k1
      generalize B j = z at g2 k2
      go_wp2_with fail
      go_region
      go_wp2_with fail
      go_roundw
      case measure => simp [intOf]; omega
      case rel => exact ⟨j + 1, q + 1, by omega, by go_num, rfl⟩
    · have e : j = n := by omega
      subst e
      go_wp2_with fail
      go_ret
      exact ⟨rfl, q, rfl⟩
end Go.Proofs.YtgadnenkkfkaaaaGreatFmt

