/- What is proved here: FnExactStacksToldSaid: Stacks answers as the specification of stacks does, for every shaped declaration and every kind at which to stop. Conditions: the listed tables lie as the program text lays them (the card ties that).. Conditions: none beyond those of the theorem itself. -/
import Derived.Test.YtpifflakohlglaaGreatFmtMt
import Derived.Test.YtpifflakohlglaaGreatFmtMs
import Derived.Test.YtpifflakohlglaaGreatFmtMk
import Derived.Test.YtpifflakohlglaaGreatFmtMl
set_option linter.all false
set_option linter.unusedVariables false
set_option linter.unusedSimpArgs false
/- What is proved here: the law FnExactStacks answers true, whatever the declaration. -/
namespace Go.Proofs.YtpifflakohlglaaGreatFmt
open Go.RowKit Go.Shelf
set_option linter.unusedVariables false
set_option linter.unusedSimpArgs false
attribute [local go_sem ↓] Go.wp_at_zero Go.wp_at_succ

set_option maxHeartbeats 4000000 in
set_option maxRecDepth 100000 in
theorem law_stacks (n : N) (v : Value) (stop : ByteArray) (w : World) (hk : KidsAt (· < w.heap.size) w v n.kids) (hT : TokTab w) (h0 : 0 < w.heap.size) :
    Calls Tryz.prog 5 #[n.val v, .string stop] w fun e w' => e = .returned (.bool true) ∧ Below w.heap.size w w' := by
  obtain ⟨a, cap, rfl, hcap, _⟩ := hk.shape
  have BN : Blk (boxN w n (.slice a n.kids.length cap)) w.heap.size 24 #[Value.string n.kind, Value.string n.text, .slice a n.kids.length cap] := Blk.new w _ _
  have hbW : Below w.heap.size w (boxN w n (.slice a n.kids.length cap)) := (Below.refl w.heap.size w).alloc (Nat.le_refl _) _
  have hsw : w.heap.size + 1 ≤ (boxN w n (.slice a n.kids.length cap)).heap.size := by simp [boxN]
  have e0 := BN.cell 0 _ rfl
  have e1 := BN.cell 1 _ rfl
  have e2 := BN.cell 2 _ rfl
  have HBN := Lib.hid BN
  have HBW := Lib.hid hbW
  have HK := Lib.hid hk
  have HT := Lib.hid hT
  have H0 := Lib.hid h0
  clear BN hbW hk hT h0
  unfold N.val
  go_enter Tryz.func5, Tryz.ntmps5
  go_wp2_with fail
  simp only [boxN] at HBN HBW hsw e0 e1 e2
  generalize w.alloc (Obj.cells #[Value.string n.kind, Value.string n.text, .slice a n.kids.length cap] 24) = w1 at HBN HBW hsw e0 e1 e2 ⊢
  refine (fits1_any n a cap _).mono ?_
  rintro e w2 ⟨rfl, hb2⟩
  have hs2 := hb2.size
  have BN2 := HBN.out.later hb2 (by omega)
  have HBX := Lib.hid (HBW.out.trans (hb2.mono HBW.out.size))
  have d0 := BN2.cell 0 _ rfl
  have d1 := BN2.cell 1 _ rfl
  have d2 := BN2.cell 2 _ rfl
  have dn := BN2.lt
  have HBN2 := Lib.hid BN2
  clear BN2 hb2
  cases hf : fits1 n with
  | false =>
    clear hf
    go_wp2_with fail
    go_ret
    exact ⟨rfl, HBX.out⟩
  | true =>
    clear hf
    by_cases hst : stop.size ≤ 2147483647
    · have hst1 : (stop.size : Int) ≤ 2147483647 := by omega
      have hst2 : ¬ 2147483647 < (stop.size : Int) := by omega
      have hst3 : ¬ 2147483647 < stop.size := by omega
      go_wp2_with fail
      refine (shaped_any n _ _ (HK.out.later HBX.out)).mono ?_
      rintro e w3 ⟨rfl, hb3⟩
      have hs3 := hb3.size
      have BN3 := HBN2.out.later hb3 (by omega)
      have HB3 := Lib.hid (HBX.out.trans (hb3.mono HBX.out.size))
      have d0 := BN3.cell 0 _ rfl
      have d1 := BN3.cell 1 _ rfl
      have d2 := BN3.cell 2 _ rfl
      have dn := BN3.lt
      have HBN3 := Lib.hid BN3
      clear BN3 hb3
      cases hs : shapedB n with
      | false =>
        clear hs
        go_wp2_with fail
        go_ret
        exact ⟨rfl, HB3.out⟩
      | true =>
        have HS := Lib.hid hs
        have hk3 := HK.out.later HB3.out
        have hT3 := HT.out.below HB3.out H0.out
        have h03 : 0 < w3.heap.size := by omega
        obtain ⟨C, t, b, hR⟩ := rep_of_shape hs hk3 hT3 h03
        have hsz := shaped_small hs
        have hlen : (stacks stop.toList 400 [] n).length ≤ 1600 := by
          have h1 := stacks_le stop.toList 400 [] n
          have h2 := kinds_le 400 hR
          omega
        have HSZ := Lib.hid hsz
        have HR := Lib.hid hR
        have HDR : Hid (Below w3.heap.size w3 w3.drew) := Lib.hid (Below.refl _ _).drew
        have HK3 := Lib.hid (hk3.later HDR.out)
        have HT3 := Lib.hid (hT3.below HDR.out h03)
        have HBN4 := Lib.hid (HBN3.out.later HDR.out (by omega))
        have h03d : 0 < w3.drew.heap.size := h03
        have hwd : w.heap.size < w3.drew.heap.size := (show w.heap.size < w3.heap.size by omega)
        have HLEN := Lib.hid hlen
        have HSH : Hid (∀ r ∈ stacks stop.toList 400 [] n, r.length ≤ 400) := Lib.hid fun r h => by have := stacks_short stop.toList 400 [] n r h; simpa using this
        clear hs hk3 hT3 hR hsz hlen
        go_wp2_with fail
        go_region_law (first
          | (refine step_call (by rfl) 16 _ _ (by rfl) #[.agg #[.string n.kind, .string n.text, .slice a n.kids.length cap], .string stop] (by first | rfl | (simp [Act.eval]; done) | (simp [Act.eval, Act.put]; done)) (enters_of Tryz.func16 (by kernel_rfl) rfl) (stacksH_any n _ stop w3.drew HS.out HK3.out HT3.out h03d) ?_
             rintro e w5 ⟨r5, rfl, hown5, hb5⟩
             refine ⟨_, rfl, ?_⟩
             have h5z : w3.heap.size ≤ w5.heap.size := hb5.size
             have HI5 : Hid (RowsHold w5 r5 (stacks stop.toList 400 [] n) ∧ Below w3.drew.heap.size w3.drew w5) := Lib.hid ⟨hown5, hb5⟩
             have BN5 := HBN4.out.later hb5 hwd
             have d0 := BN5.cell 0 _ rfl
             have d1 := BN5.cell 1 _ rfl
             have d2 := BN5.cell 2 _ rfl
             have dn := BN5.lt
             clear BN5
             clear hown5 hb5)
          | (refine step_call (by rfl) 17 _ _ (by rfl) #[.agg #[.string n.kind, .string n.text, .slice a n.kids.length cap], .string stop, .slice none 0 0] (by first | rfl | (simp [Act.eval]; done) | (simp [Act.eval, Act.put]; done)) (enters_of Tryz.func17 (by kernel_rfl) rfl) (specStacksH_any stop HR.out HSZ.out _ w5 (HK3.out.later HI5.out.2)) ?_
             rintro e w6 ⟨r6, rfl, hb6, hown6⟩
             refine ⟨_, rfl, ?_⟩
             have HR1 : Hid (RowsHold w6 r5 (stacks stop.toList 400 [] n)) := Lib.hid (HI5.out.1.below hb6)
             have HR2 : Hid (RowsHold w6 r6 (stacks stop.toList 400 [] n)) := Lib.hid (hown6)
             have HB6 : Hid (Below w3.heap.size w3 w6) := Lib.hid (HDR.out.trans (HI5.out.2.trans (hb6.mono h5z)))
             clear hown6 hb6)
          | (refine step_call (by rfl) 17 _ _ (by rfl) #[.agg #[.string n.kind, .string n.text, .slice a n.kids.length cap], .string stop, .slice none 0 0] (by first | rfl | (simp [Act.eval]; done) | (simp [Act.eval, Act.put]; done)) (enters_of Tryz.func17 (by kernel_rfl) rfl) (specStacksH_any stop HR.out HSZ.out _ w3.drew HK3.out) ?_
             rintro e w5 ⟨r6, rfl, hb5, hown5⟩
             refine ⟨_, rfl, ?_⟩
             have h5z : w3.heap.size ≤ w5.heap.size := hb5.size
             have HS5 : Hid (RowsHold w5 r6 (stacks stop.toList 400 [] n) ∧ Below w3.drew.heap.size w3.drew w5) := Lib.hid ⟨hown5, hb5⟩
             have BN5 := HBN4.out.later hb5 hwd
             have d0 := BN5.cell 0 _ rfl
             have d1 := BN5.cell 1 _ rfl
             have d2 := BN5.cell 2 _ rfl
             have dn := BN5.lt
             clear BN5
             clear hown5 hb5)
          | (refine step_call (by rfl) 16 _ _ (by rfl) #[.agg #[.string n.kind, .string n.text, .slice a n.kids.length cap], .string stop] (by first | rfl | (simp [Act.eval]; done) | (simp [Act.eval, Act.put]; done)) (enters_of Tryz.func16 (by kernel_rfl) rfl) (stacksH_any n _ stop w5 HS.out (HK3.out.later HS5.out.2) (HT3.out.below HS5.out.2 h03d) (by omega)) ?_
             rintro e w6 ⟨r5, rfl, hown6, hb6⟩
             refine ⟨_, rfl, ?_⟩
             have HR1 : Hid (RowsHold w6 r5 (stacks stop.toList 400 [] n)) := Lib.hid (hown6)
             have HR2 : Hid (RowsHold w6 r6 (stacks stop.toList 400 [] n)) := Lib.hid (HS5.out.1.below hb6)
             have HB6 : Hid (Below w3.heap.size w3 w6) := Lib.hid (HDR.out.trans (HS5.out.2.trans (hb6.mono h5z)))
             clear hown6 hb6)
          | (refine step_call (by rfl) 15 _ _ (by rfl) #[r5, r6, .func (.func 12) #[] #[]] (by first | rfl | (simp [Act.eval]; done) | (simp [Act.eval, Act.put]; done)) (enters_of Tryz.func15 (by kernel_rfl) rfl) (eq_rows _ r5 r6 _ (by have := HLEN.out; omega) HSH.out HR1.out HR2.out) ?_
             rintro e w7 ⟨rfl, q, rfl⟩
             refine ⟨_, rfl, ?_⟩))
        all_goals go_wp2_with fail
        all_goals go_ret
        all_goals exact ⟨rfl, (HB3.out.trans (HB6.out.mono HB3.out.size)).trans ⟨rfl, rfl, rfl, Nat.le_refl _, fun _ _ => rfl⟩⟩
    · have hst1 : ¬ (stop.size : Int) ≤ 2147483647 := by omega
      have hst2 : (2147483647 : Int) < (stop.size : Int) := by omega
      have hst3 : 2147483647 < stop.size := by omega
      go_wp2_with fail
      go_ret
      exact ⟨rfl, HBX.out⟩
end Go.Proofs.YtpifflakohlglaaGreatFmt

/- What is proved here: FnExactStacksToldSaid: the law answers true for every input, and the input reads as it did: the told and tied card. Conditions: the listed tables lie as the program's text lays them (the card ties that). -/
namespace Go.Proofs.YtpifflakohlglaaGreatFmt
open Go.ChangeShapes Go.WideShapes Go.ChangeAt Go.RowKit
open Go.ChangeMaps (open_string shut_string)
open Go.Extern.Stop Go.Stop Go.Extern
set_option linter.unusedVariables false


theorem laid_met (os : Os) (args : Array Value) : laidMetH Tryz.prog Rows.fnExactStacksRow.laid ((World.laidAll Tryz.prog os Rows.fnExactStacksRow.laid).forCall (fun _ _ => 0) ⟨#[], args, []⟩).memory := by
  rw [MakeChecks.laidMetH_plain _ _ _ (by kernel_rfl)]
  exact laidMet_laidAll _ (by kernel_rfl) (by kernel_rfl)
set_option maxRecDepth 100000 in
theorem lifted (os : Os) (started : os.Started) (H : Type) (enc : TypeId × Value → H) :
    ReturnsInTold none {} Tryz.checked os 5 .any Input.okWide ((OpenSpec.ofChange Rows.fnExactStacksSpec).preRow enc Tryz.prog Tryz.f5 [] false Rows.fnExactStacksRow.laid) (fun F => ((OpenSpec.ofChange Rows.fnExactStacksSpec).at F).post enc Tryz.prog Tryz.f5 false true false false) (aloneAtReturn Tryz.prog) nothingAlways := by
  refine returnsInTold_of_row (C := Tryz.checked) (s := OpenSpec.ofChange Rows.fnExactStacksSpec) (by kernel_rfl) own started (by kernel_rfl) Tryz.func5
    (fun F => ⟨World.laidAll Tryz.prog os Rows.fnExactStacksRow.laid, F.over fun _ _ => 0, ⟨#[], #[.agg #[.string ⟨#[]⟩, .string ⟨#[]⟩, .slice none 0 0], .string ⟨#[]⟩], []⟩, World.laidAll_os _ _ _, World.shaped_of_ZipB (by kernel_rfl) (by kernel_rfl), rfl, (Input.okWide_of_okWideB (by kernel_rfl)).2,
      OpenSpec.preRow_of_B rfl 8 (by kernel_rfl) (by kernel_rfl) (laid_met os _), by
        simp only [Assume.holds]
        exact ⟨by simp, by simp, fun _ => F.over_modest Modest.zero, by simp, by simp⟩, F.over_answers _⟩) ?_
  intro F W base args ds gs before _ hF hval0 hW _ _ _ hL _
  have hval : ∀ (j : Nat) t v, Tryz.f5.params[j]? = some t → args[j]? = some v → Value.okWide Tryz.prog W .any base t v := hval0
  have hW' := hW
  obtain ⟨p, q, hA0, hV, rfl, hfz, hnd⟩ := hW
  have hA : DataW.TrodAll enc Tryz.prog W 0 (fun _ => true) true Tryz.f5.params.toList args.toList ds p := hA0
  have hlt := hA.lt
  rw [Tryz.params5] at hA hval
  obtain ⟨fs, f0, f1, f2, hu, _⟩ := underNode
  have hT : TokTab W ∧ 0 < W.heap.size := by
    have hL' := hL
    rw [MakeChecks.laidMetH_plain _ _ _ (by kernel_rfl)] at hL'
    exact toks_of_reads (Lib.laidMet.reads hL' (List.Mem.tail _ (List.Mem.tail _ (List.Mem.tail _ (List.Mem.head _)))))
  obtain ⟨v0, v1, d0, d1, p0, p1, hargs, rfl, hp, h0, h1⟩ := trodAll_two hA
  subst hargs
  obtain ⟨c0, rfl, hsz⟩ := okWide_struct hu (hval 0 24 v0 rfl rfl)
  obtain ⟨s, rfl, rfl, rfl, ws⟩ := open_string underStr (hval 1 9 v1 rfl rfl) h1
  have h0' := h0
  obtain ⟨fuel, h0⟩ := h0
  obtain ⟨n, v, hc, hk⟩ := open_node fuel h0
  have ec : c0 = #[.string n.kind, .string n.text, v] := Array.ext' hc
  subst ec
  have hlt0 : ∀ x ∈ p0, x.block < W.heap.size := fun x hx => hlt x (by rw [hp]; simp [hx])
  obtain ⟨g, hgs⟩ : ∃ g, gs = [g] := by
    obtain ⟨_, _, _, _, d, _, e, _⟩ := trodVars_one hV
    exact ⟨d, e⟩
  subst hgs
  refine (law_stacks n v s W hk hT.1 hT.2).mono fun e W' ⟨he, hb⟩ => ?_
  subst he
  have hV' := Below.trodVars laidOut hb (by kernel_rfl) hV
  exact ⟨_, rfl, _, _, _, [], _, _, hW', trodAll_mk1 (shut_bool (by kernel_rfl) _), trodAll_mk2 (Below.trod laidOut (by kernel_rfl) (of_decide_eq_true (by kernel_rfl)) h0' hb hlt0) (shut_string underStr ws), hV', hb.frame _, fun h => by cases h⟩
theorem told_holds : Rows.FnExactStacksToldSaid :=
  Claim7.holds_of_told_tied_any_at .later 5 Tryz.f5 "fmt.Sprintf, its operands' methods called" [] [] _ _ _ _ _ (by kernel_rfl) rfl rfl rfl laidOut (by kernel_rfl) rfl ⟨rfl, rfl, rfl, rfl, rfl, rfl, rfl⟩ rfl rfl (by kernel_rfl) (by kernel_rfl) Tryz.func5 (by kernel_rfl)
    (of_decide_eq_true (by kernel_rfl)) (by unfold Func.isWrapper; first | (rw [if_pos (by decide +kernel)]; kernel_rfl) | (rw [if_neg (by decide +kernel)]; exact ⟨rfl, rfl⟩)) stops.symm rfl stopKnobs.symm (by kernel_rfl)
    (by kernel_rfl) (by kernel_rfl) (by kernel_rfl) (by kernel_rfl) (by kernel_rfl) (by kernel_rfl) (by kernel_rfl) (by kernel_rfl) (by kernel_rfl) rfl (by kernel_rfl) rfl rfl
    rfl rfl
    rfl (by kernel_rfl) (by kernel_rfl) (by kernel_rfl) (by decide) (by kernel_rfl) fnExactStacks_row_tie
    (OpenClaim.moreEntering_of (by kernel_rfl) (by kernel_rfl) (by kernel_rfl) (by kernel_rfl) (by kernel_rfl) (by kernel_rfl) (by kernel_rfl) (by kernel_rfl) (by kernel_rfl) (by kernel_rfl))
    ⟨_, WideRow.started_initial, quiet _⟩
    (fun os started _ H enc _ => lifted os started H enc)
#print axioms told_holds
end Go.Proofs.YtpifflakohlglaaGreatFmt

