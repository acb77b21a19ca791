/- What is proved here: FnExactFilterCardSaid: FilterDecl leaves the names that its filter takes, and reports whether there are any: the law answers true for every input. Conditions: the listed tables lie as the program text lays them (the card ties that).. Conditions: none beyond those of the theorem itself. -/
import Derived.ProofKit
import Derived.OpenShut
import Derived.OpenVars
import Derived.Carry
import Derived.LaidMore
import Derived.Lay
import Derived.SevenTiedAt
import Derived.Stop.Joined
import Derived.Lib.LaidU8
import Derived.Test.YtoijkbkcfbbmfaaGreatDoorTie
import Derived.Test.YtoijkbkcfbbmfaaGreatDoorCards
import Derived.Test.YtoijkbkcfbbmfaaGreatDoorMl
import Derived.Test.YtoijkbkcfbbmfaaGreatDoorMe
import Derived.Test.YtoijkbkcfbbmfaaGreatDoorNf
import Derived.Test.YtoijkbkcfbbmfaaGreatDoorNg
set_option linter.all false
set_option linter.unusedVariables false
set_option linter.unusedSimpArgs false
/- What is proved here: what the law of this seat rests on: the listed table of words as it lies; the arguments as they read. -/
namespace Go.Proofs.YtoijkbkcfbbmfaaGreatDoor
open Go.ChangeShapes Go.WideShapes Go.ChangeAt Go.RowKit
open Go.ChangeMaps (open_string shut_string)
open Go.Extern.Stop Go.Stop Go.Extern
set_option linter.unusedVariables false

theorem own : ownKnob Tryz.prog.godebug = none := by kernel_rfl
theorem laidOut : laidOutB Tryz.pinned.checked.prog = true := by kernel_rfl
abbrev tokName : String := "loop.example/pub-gosourcefiles/pub/goparse_go_token.tokens"
theorem gTok : Tryz.prog.globalNamed tokName = some 0 := by kernel_rfl
theorem tTok : (Tryz.prog.globals[0]?).map (·.type) = some 119 := by kernel_rfl
theorem underTok : Tryz.prog.underlying 119 = some (.array 89 9) := by kernel_rfl
def datL : List (DataW Unit) := match (Rows.laid_loop_example_pub_gosourcefiles_pub_goparse_go_token_tokens : DataW Unit) with | .agg l => l | _ => []
theorem datTok : (datL.drop 61).take 25 = tokW.map fun t => (.lit (.string t) : DataW Unit) := by kernel_rfl
theorem datAgg : (Rows.laid_loop_example_pub_gosourcefiles_pub_goparse_go_token_tokens : DataW Unit) = .agg datL := by kernel_rfl
theorem toks_of_reads {W : World} (h : Lib.VarReads Tryz.prog W tokName Rows.laid_loop_example_pub_gosourcefiles_pub_goparse_go_token_tokens) : TokTab W ∧ 0 < W.heap.size := by
  obtain ⟨g, t, cs, fuel, p, hg, hty, hvar, hd⟩ := h
  obtain rfl := Option.some.inj (gTok.symm.trans hg)
  obtain rfl := Option.some.inj (tTok.symm.trans hty)
  rw [datAgg] at hd
  obtain ⟨xs, m, rfl, hx, hlen, hn, hel⟩ := DataW.trod_array underTok hd
  simp only [Prod.mk.injEq, DataW.agg.injEq] at hx
  have hcell : ∀ i, W.cell? ⟨0, i, none⟩ = cs[i]? := fun i => World.var?_cell gTok hvar i
  have key : ∀ i t, tokW[i]? = some t → ∃ s : ByteArray, s.toList = t ∧ W.cell? ⟨0, 61 + i, none⟩ = some (.string s) := by
    intro i t hi
    have hi25 : i < 25 := (List.getElem?_eq_some_iff.1 hi).1
    have h61 := hel (61 + i) (by omega)
    rw [cellsStr] at h61
    have hix : 61 + i < xs.length := by omega
    rw [List.getElem?_eq_getElem hix] at h61
    obtain ⟨s, e0, e1, _⟩ := DataW.trod_string underStr h61
    have hd2 : (datL.drop 61)[i]? = some (.lit (.string t)) := by
      have h0 : ((datL.drop 61).take 25)[i]? = (datL.drop 61)[i]? := by rw [List.getElem?_take, if_pos hi25]
      rw [← h0, datTok, List.getElem?_map, hi]
      rfl
    rw [List.getElem?_drop, hx.1, List.getElem?_map, List.getElem?_eq_getElem hix] at hd2
    simp only [Option.map_some, Option.some.injEq] at hd2
    rw [e1] at hd2
    simp only [DataW.lit.injEq, Lit.string.injEq] at hd2
    refine ⟨s, by rw [ByteArray.toList_eq]; exact hd2, ?_⟩
    rw [hcell]
    have h2 : ((cs.toList.drop ((61 + i) * 1)).take 1)[0]? = some (.string s) := by rw [e0]; rfl
    rw [List.getElem?_take, if_pos (by omega), List.getElem?_drop] at h2
    simpa using h2
  refine ⟨key, ?_⟩
  obtain ⟨s, _, hc⟩ := key 0 _ rfl
  exact World.block_lt_of_cell? W _ hc
theorem underStrs : Tryz.prog.underlying 25 = some (.slice 9) := by kernel_rfl
set_option maxRecDepth 100000 in
theorem open_strs {H : Type} {enc : TypeId × Value → H} {w : World} {sp : Nat → Bool} {held : Bool} {fuel : Nat} {v : Value} {x : DataW H × List MemPlace} (h : DataW.trod enc Tryz.prog w 0 sp held fuel 25 [v] = some x) :
    ∃ L : List ByteArray, StrsAt w.heap.size w v L := by
  rcases DataW.trod_slice underStrs h with ⟨e2, _⟩ | ⟨a, len, cap, elems, rest, m, rfl, e2, _, _, hlc, _, hel, hall, _⟩
  · obtain rfl : v = .slice none 0 0 := by first | exact e2 | exact List.head_eq_of_cons_eq e2
    exact ⟨[], none, 0, rfl, Nat.le_refl _, fun i s hi => by simp at hi⟩
  · obtain rfl : v = .slice (some a) len cap := by first | exact e2 | exact List.head_eq_of_cons_eq e2
    rw [cellsStr] at hall
    have key : ∀ i, ∃ s : ByteArray, i < len → w.cell? ((a.add (i * 1)).add 0) = some (.string s) := by
      intro i
      by_cases hi : i < len
      · have hb := hall i hi
        have hi' : i < elems.length := by omega
        rw [List.getElem?_eq_getElem hi', Option.bind_eq_some_iff] at hb
        obtain ⟨cs', hc', hb⟩ := hb
        obtain ⟨s, e0, _⟩ := DataW.trod_string underStr hb
        subst e0
        obtain ⟨_, _, hc⟩ := World.cells?_some hc'
        exact ⟨s, fun _ => hc 0 (by omega)⟩
      · exact ⟨⟨#[]⟩, fun h => absurd h hi⟩
    obtain ⟨P, hP⟩ := Classical.skolem.1 key
    refine ⟨(List.range len).map P, some a, cap, by simp, by simpa using hlc, fun i s hi => ?_⟩
    simp only [List.getElem?_map, Option.map_eq_some_iff] at hi
    obtain ⟨j, hj, rfl⟩ := hi
    obtain ⟨hlt, rfl⟩ := List.getElem?_eq_some_iff.1 hj
    simp at hlt
    have hp0 := hP 0 (by omega)
    have ha : a = ⟨a.block, a.off, none⟩ := by
      rw [show (0 * 1 : Nat) = 0 from rfl, show (a.add 0) = a from by simp [Addr.add]] at hp0
      exact add_none hp0
    have hblk : a.block < w.heap.size := by
      have h1 := World.block_lt_of_cell? w _ hp0
      rw [show (0 * 1 : Nat) = 0 from rfl, show ((a.add 0).add 0) = a from by simp [Addr.add]] at h1
      exact h1
    refine ⟨a.block, a.off, by rw [← ha], hblk, ?_⟩
    have h1 := hP i hlt
    rw [ha] at h1
    simp only [add_at, Nat.mul_one, Nat.add_zero] at h1
    simpa using h1
end Go.Proofs.YtoijkbkcfbbmfaaGreatDoor

/- What is proved here: the law FnExactFilter answers true, whatever the declaration and the names. -/
namespace Go.Proofs.YtoijkbkcfbbmfaaGreatDoor
open Go.RowKit Go.Shelf
set_option linter.unusedVariables false
set_option linter.unusedSimpArgs false
attribute [local go_sem ↓] Go.wp_at_zero Go.wp_at_succ

theorem StrsAt.up {B B' : Nat} {w : World} {v : Value} {L : List ByteArray} (h : StrsAt B w v L) (hB : B ≤ B') : StrsAt B' w v L := by
  obtain ⟨a, cap, h1, h2, h3⟩ := h
  exact ⟨a, cap, h1, h2, fun i s hi => by
    obtain ⟨b, o, e, hlt, hc⟩ := h3 i s hi
    exact ⟨b, o, e, by omega, hc⟩⟩
set_option maxHeartbeats 4000000 in
set_option maxRecDepth 100000 in
theorem specFilter_func (n : N) (v vs : Value) (L : List ByteArray) (w : World) (hf : isK n [102, 117, 110, 99] = true) (hk : KidsAt (· < w.heap.size) w v n.kids) (hvs : StrsAt w.heap.size w vs L) (hl : L.length ≤ 2147483647) :
    Calls Tryz.prog 8 #[n.val v, vs] w fun e w' => FPost n L w e w' := by
  obtain ⟨a, cap, rfl, hcap, _⟩ := hk.shape
  have hkd : (n.kind.toList == [102, 117, 110, 99]) = true := hf
  have hfil : filtN (isIn L) n = n := by simp [filtN, hf]
  have hlef : leftN (isIn L) n = isIn L n.text := by simp [leftN, hf]
  have HVS := Lib.hid hvs
  have HF := Lib.hid (And.intro hfil hlef)
  have HK := Lib.hid hk
  clear hk hf hfil hlef hvs
  unfold N.val
  go_enter Tryz.func8, Tryz.ntmps8
  go_wp2_with fail
  go_region_held3 (fun w' => w'.cell? ⟨w.heap.size, 0, none⟩ = some (.string n.kind) ∧ w'.cell? ⟨w.heap.size, 1, none⟩ = some (.string n.text) ∧ w'.cell? ⟨w.heap.size, 2, none⟩ = some (.slice a n.kids.length cap)) (go_keep)
    (first | (go_at_call 17; refine (contains_any L vs n.text _ (HVS.out.below (by repeat (first | (with_reducible exact Below.refl _ _) | (with_reducible refine Below.drew ?_) | (with_reducible refine Below.alloc ?_ (by first | (simp only [World.size_setCell, World.size_alloc]; omega) | omega) _) | (with_reducible refine Below.setCell ?_ (by first | (simp only [World.size_setCell, World.size_alloc]; omega) | (simp; done) | omega) _))) (Nat.le_refl _)) hl).mono ?_; rintro e w4 ⟨rfl, rfl⟩))
  all_goals go_wp2_with fail
  have hbW : Below w.heap.size w ((w.alloc (Obj.cells #[Value.string n.kind, Value.string n.text, .slice a n.kids.length cap] 24)).alloc (Obj.cells #[Value.string n.kind, Value.string n.text, .slice a n.kids.length cap] 24)) := ((Below.refl _ _).alloc (Nat.le_refl _) _).alloc (by simp) _
  have hBW : Blk ((w.alloc (Obj.cells #[Value.string n.kind, Value.string n.text, .slice a n.kids.length cap] 24)).alloc (Obj.cells #[Value.string n.kind, Value.string n.text, .slice a n.kids.length cap] 24)) (w.heap.size + 1) 24 #[Value.string n.kind, Value.string n.text, .slice a n.kids.length cap] := by
    simpa using Blk.new (w.alloc (Obj.cells #[Value.string n.kind, Value.string n.text, .slice a n.kids.length cap] 24)) #[Value.string n.kind, Value.string n.text, .slice a n.kids.length cap] 24
  all_goals
    refine bodyPost_ret (ret_node2 (X := w.heap.size + 1) rfl _ rfl rfl (show Blk _ _ _ _ from hBW)) rfl ⟨a, n.kids.length, cap, ?_, ?_, ?_⟩
    · rw [HF.out.1, HF.out.2]; rfl
    · rw [HF.out.1]
      exact HK.out.later hbW.drew
    · exact hbW.drew
theorem specFilter_any (n : N) (v vs : Value) (L : List ByteArray) (w : World) (hs : shapedB n = true) (hnm : namesB n = true) (hk : KidsAt (· < w.heap.size) w v n.kids) (hvs : StrsAt w.heap.size w vs L) (hl : L.length ≤ 2147483647) :
    Calls Tryz.prog 8 #[n.val v, vs] w fun e w' => FPost n L w e w' := by
  cases hf : isK n [102, 117, 110, 99] with
  | true => exact specFilter_func n v vs L w hf hk hvs hl
  | false => exact specFilter_gen n v vs L w hs hnm hf hk hvs hl

set_option maxHeartbeats 4000000 in
set_option maxRecDepth 100000 in
theorem law_filter (n : N) (v vs : Value) (L : List ByteArray) (w : World) (hk : KidsAt (· < w.heap.size) w v n.kids) (hvs : StrsAt w.heap.size w vs L) (hT : TokTab w) (h0 : 0 < w.heap.size) :
    Calls Tryz.prog 3 #[n.val v, vs] w fun e w' => e = .returned (.bool true) ∧ Below w.heap.size w w' := by
  obtain ⟨a, cap, rfl, hcap, _⟩ := hk.shape
  obtain ⟨w1, hw1⟩ : ∃ w1, w.alloc (Obj.cells #[Value.string n.kind, Value.string n.text, .slice a n.kids.length cap] 24) = w1 := ⟨_, rfl⟩
  have BN : Blk w1 w.heap.size 24 #[Value.string n.kind, Value.string n.text, .slice a n.kids.length cap] := by rw [← hw1]; exact Blk.new w _ _
  have hbW : Below w.heap.size w w1 := by rw [← hw1]; exact (Below.refl w.heap.size w).alloc (Nat.le_refl _) _
  have hsw : w.heap.size + 1 ≤ w1.heap.size := by rw [← hw1]; simp
  have e0 := BN.cell 0 _ rfl
  have e1 := BN.cell 1 _ rfl
  have e2 := BN.cell 2 _ rfl
  have en := BN.lt
  have HBN := Lib.hid BN
  have HBW := Lib.hid hbW
  have HK := Lib.hid hk
  have HT := Lib.hid hT
  have H0 := Lib.hid h0
  have HVS := Lib.hid hvs
  have HW1 := Lib.hid hw1
  clear BN hbW hk hT h0 hvs
  unfold N.val
  go_enter Tryz.func3, Tryz.ntmps3
  go_wp2_with fail
  clear hw1
  refine (fits1_any n a cap _).mono ?_
  rintro e w2 ⟨rfl, hb2⟩
  have hs2 := hb2.size
  have BN2 := HBN.out.later hb2 (by omega)
  have HBX := Lib.hid (HBW.out.trans (hb2.mono HBW.out.size))
  have d0 := BN2.cell 0 _ rfl
  have d1 := BN2.cell 1 _ rfl
  have d2 := BN2.cell 2 _ rfl
  have dn := BN2.lt
  have HBN2 := Lib.hid BN2
  clear BN2 hb2 e0 e1 e2 en
  cases hf : fits1 n with
  | false =>
    clear hf
    go_wp2_with fail
    go_ret
    exact ⟨rfl, HBX.out⟩
  | true =>
    clear hf
    go_wp2_with fail
    refine (fits2_any L vs w2 (HVS.out.below HBX.out (Nat.le_refl _))).mono ?_
    rintro e w9 ⟨rfl, rfl⟩
    cases hf2 : fits2 L with
    | false =>
      clear hf2
      go_wp2_with fail
      go_ret
      exact ⟨rfl, HBX.out⟩
    | true =>
      have hl : L.length ≤ 2147483647 := by
        simp only [fits2, Bool.and_eq_true, decide_eq_true_eq] at hf2
        exact hf2.1
      clear hf2
      go_wp2_with fail
      refine (shaped_any n _ _ (HK.out.later HBX.out)).mono ?_
      rintro e w3 ⟨rfl, hb3⟩
      have hs3 := hb3.size
      have BN3 := HBN2.out.later hb3 (by omega)
      have HB3 := Lib.hid (HBX.out.trans (hb3.mono HBX.out.size))
      have d0 := BN3.cell 0 _ rfl
      have d1 := BN3.cell 1 _ rfl
      have d2 := BN3.cell 2 _ rfl
      have dn := BN3.lt
      have HBN3 := Lib.hid BN3
      clear BN3 hb3
      cases hs : shapedB n with
      | false =>
        clear hs
        go_wp2_with fail
        go_ret
        exact ⟨rfl, HB3.out⟩
      | true =>
        have HS := Lib.hid hs
        clear hs
        go_wp2_with fail
        refine (specNames_any n _ _ HS.out (HK.out.later HB3.out)).mono ?_
        rintro e w4 ⟨rfl, hb4⟩
        have hs4 := hb4.size
        have BN4 := HBN3.out.later hb4 (by omega)
        have HB4 := Lib.hid (HB3.out.trans (hb4.mono HB3.out.size))
        have d0 := BN4.cell 0 _ rfl
        have d1 := BN4.cell 1 _ rfl
        have d2 := BN4.cell 2 _ rfl
        have dn := BN4.lt
        have HBN4 := Lib.hid BN4
        clear BN4 hb4
        cases hnm : namesB n with
        | false =>
          clear hnm
          go_wp2_with fail
          go_ret
          exact ⟨rfl, HB4.out⟩
        | true =>
          have HNM := Lib.hid hnm
          clear hnm
          go_wp2_with fail
          refine (specFilter_any n _ vs L w4 HS.out HNM.out (HK.out.later HB4.out) ((HVS.out.below HB4.out (Nat.le_refl _)).up HB4.out.size) hl).mono ?_
          rintro e w5 ⟨a5, l5, c5, rfl, hk5, hb5⟩
          have hs5 := hb5.size
          have BN5 := HBN4.out.later hb5 (by omega)
          have HB5 := Lib.hid (HB4.out.trans (hb5.mono HB4.out.size))
          have d0 := BN5.cell 0 _ rfl
          have d1 := BN5.cell 1 _ rfl
          have d2 := BN5.cell 2 _ rfl
          have dn := BN5.lt
          obtain ⟨w6, hw6⟩ : ∃ w6, w5.alloc (Obj.cells #[Value.string (filtN (isIn L) n).kind, Value.string (filtN (isIn L) n).text, .slice a5 l5 c5] 24) = w6 := ⟨_, rfl⟩
          have hb6 : Below w5.heap.size w5 w6 := by rw [← hw6]; exact (Below.refl _ _).alloc (Nat.le_refl _) _
          have hs6 := hb6.size
          have BW6 : Blk w6 w5.heap.size 24 #[Value.string (filtN (isIn L) n).kind, Value.string (filtN (isIn L) n).text, .slice a5 l5 c5] := by rw [← hw6]; exact Blk.new w5 _ _
          have BN6 := BN5.later hb6 dn
          have HB6 := Lib.hid (HB5.out.trans (hb6.mono HB5.out.size))
          have HK6 := Lib.hid (hk5.later hb6)
          have d0 := BN6.cell 0 _ rfl
          have d1 := BN6.cell 1 _ rfl
          have d2 := BN6.cell 2 _ rfl
          have dn := BN6.lt
          have HBN6 := Lib.hid BN6
          have HBW6 := Lib.hid BW6
          clear BN5 hb5 BN6 BW6 hb6 hk5
          go_wp2_with fail
          clear hw6
          refine (implFilter_any n _ vs L w6 HS.out HNM.out (HK.out.later HB6.out) ((HVS.out.below HB6.out (Nat.le_refl _)).up HB6.out.size) hl (HT.out.later H0.out HB6.out) (by have := HB6.out.size; have := H0.out; omega)).mono ?_
          rintro e w7 ⟨a7, l7, c7, rfl, hk7, hb7⟩
          obtain ⟨w8, hw8⟩ : ∃ w8, w7.alloc (Obj.cells #[Value.string (filtN (isIn L) n).kind, Value.string (filtN (isIn L) n).text, .slice a7 l7 c7] 24) = w8 := ⟨_, rfl⟩
          have hb8 : Below w7.heap.size w7 w8 := by rw [← hw8]; exact (Below.refl _ _).alloc (Nat.le_refl _) _
          have hs8 := hb8.size
          have hs7 := hb7.size
          have BG8 : Blk w8 w7.heap.size 24 #[Value.string (filtN (isIn L) n).kind, Value.string (filtN (isIn L) n).text, .slice a7 l7 c7] := by rw [← hw8]; exact Blk.new w7 _ _
          have BW8 := (HBW6.out.later hb7 HBW6.out.lt).later hb8 (by have := HBW6.out.lt; omega)
          have HB8 := Lib.hid ((HB6.out.trans (hb7.mono HB6.out.size)).trans (hb8.mono (by have := HB6.out.size; omega)))
          have HKG := Lib.hid (hk7.later hb8)
          have HKW := Lib.hid ((HK6.out.later hb7).later hb8)
          have g0 := BG8.cell 0 _ rfl
          have g1 := BG8.cell 1 _ rfl
          have g2 := BG8.cell 2 _ rfl
          have gl := BG8.lt
          have k0 := BW8.cell 0 _ rfl
          have k1 := BW8.cell 1 _ rfl
          have k2 := BW8.cell 2 _ rfl
          have kl := BW8.lt
          clear hb7 hb8 hk7 BG8 BW8
          go_wp2_with fail
          clear hw8
          refine (same_any 400 (filtN (isIn L) n) (by have h1 := filtN_size (isIn L) n; have h2 := shaped_small HS.out; omega) (by omega) (.slice a7 l7 c7) (.slice a5 l5 c5) w8 HKG.out HKW.out).mono ?_
          rintro e wA ⟨rfl, hbA⟩
          have HBA := Lib.hid (HB8.out.trans (hbA.mono HB8.out.size))
          clear hbA
          go_wp2_with fail
          go_ret
          exact ⟨rfl, HBA.out⟩
end Go.Proofs.YtoijkbkcfbbmfaaGreatDoor

/- What is proved here: FnExactFilterCardSaid: the law answers true for every input, and the input reads as it did: the tied card. Conditions: the listed tables lie as the program's text lays them (the card ties that). -/
namespace Go.Proofs.YtoijkbkcfbbmfaaGreatDoor
open Go.ChangeShapes Go.WideShapes Go.ChangeAt Go.RowKit
open Go.ChangeMaps (open_string shut_string)
set_option linter.unusedVariables false

set_option maxRecDepth 100000 in
theorem lifted (os : Os) (started : os.Started) (H : Type) (enc : TypeId × Value → H) :
    ReturnsInHanded {} Tryz.checked os 3 .any (fun w args => (Rows.fnExactFilterSpec.pre enc Tryz.prog Tryz.f3 Rows.fnExactFilterRow.domain false w args ∧ laidMetH Tryz.prog Rows.fnExactFilterRow.laid w) ∧ sizedMet enc Tryz.prog Tryz.f3 (OpenSpec.ofChange Rows.fnExactFilterSpec) false w args)
      (Rows.fnExactFilterSpec.post enc Tryz.prog Tryz.f3 false true false false) := by
  refine returnsInHanded_of_change_and (C := Tryz.checked) (X := fun w _ => laidMetH Tryz.prog Rows.fnExactFilterRow.laid w) (fun _ _ _ hh h => h.of_heap hh) own started (by kernel_rfl) Tryz.func3
    (ChangeSpec.witness_shaped (enc := enc) (C := Tryz.checked) (os := os) (X := fun w _ => laidMetH Tryz.prog Rows.fnExactFilterRow.laid w) false (World.laidAll Tryz.prog os Rows.fnExactFilterRow.laid) #[.agg #[.string ⟨#[]⟩, .string ⟨#[]⟩, .slice none 0 0], .slice none 0 0] 8 (World.laidAll_os _ _ _)
      (World.shaped_of_ZipB (by kernel_rfl) (by kernel_rfl)) (by kernel_rfl) (by kernel_rfl) (by kernel_rfl) (by rw [MakeChecks.laidMetH_plain _ _ _ (by kernel_rfl)]; exact laidMet_laidAll _ (by kernel_rfl) (by kernel_rfl))) ?_
  intro W base args ds gs before hval0 hW hc _ hL _
  have hval : ∀ (j : Nat) t v, Tryz.f3.params[j]? = some t → args[j]? = some v → Value.okWide Tryz.prog W .any base t v := hval0
  have hW' := hW
  obtain ⟨p, q, hA0, hV, rfl, hfz, hnd⟩ := hW
  have hA : DataW.TrodAll enc Tryz.prog W 0 (fun _ => true) true Tryz.f3.params.toList args.toList ds p := hA0
  have hlt := hA.lt
  rw [Tryz.params3] at hA hval
  obtain ⟨fs, f0, f1, f2, hu, _⟩ := underNode
  have hT : TokTab W ∧ 0 < W.heap.size := by
    have hL' := hL
    rw [MakeChecks.laidMetH_plain _ _ _ (by kernel_rfl)] at hL'
    exact toks_of_reads (Lib.laidMet.reads hL' (List.Mem.tail _ (List.Mem.tail _ (List.Mem.tail _ (List.Mem.head _)))))
  obtain ⟨v0, v1, d0, d1, p0, p1, hargs, rfl, hp, h0, h1⟩ := trodAll_two hA
  subst hargs
  obtain ⟨c0, rfl, hsz⟩ := okWide_struct hu (hval 0 24 v0 rfl rfl)
  obtain ⟨aS, lS, cS, rfl⟩ := okWide_slice underStrs (hval 1 25 v1 rfl rfl)
  have h0' := h0
  have h1' := h1
  obtain ⟨fuel, h0⟩ := h0
  obtain ⟨fuel1, h1⟩ := h1
  obtain ⟨n, v, hc0, hk⟩ := open_node fuel h0
  have ec : c0 = #[.string n.kind, .string n.text, v] := Array.ext' hc0
  subst ec
  obtain ⟨L, hvs⟩ := open_strs h1
  have hlt0 : ∀ x ∈ p0, x.block < W.heap.size := fun x hx => hlt x (by rw [hp]; simp [hx])
  have hlt1 : ∀ x ∈ p1, x.block < W.heap.size := fun x hx => hlt x (by rw [hp]; simp [hx])
  obtain ⟨g, hgs⟩ : ∃ g, gs = [g] := by
    obtain ⟨_, _, _, _, d, _, e, _⟩ := trodVars_one hV
    exact ⟨d, e⟩
  subst hgs
  refine (law_filter n v _ L W hk hvs hT.1 hT.2).mono fun e W' ⟨he, hb⟩ => ?_
  subst he
  have hV' := Below.trodVars laidOut hb (by kernel_rfl) hV
  exact ⟨_, rfl, _, _, _, [], _, _, hW', trodAll_mk1 (shut_bool (by kernel_rfl) _), trodAll_mk2 (Below.trod laidOut (by kernel_rfl) (of_decide_eq_true (by kernel_rfl)) h0' hb hlt0) (Below.trod laidOut (by kernel_rfl) (of_decide_eq_true (by kernel_rfl)) h1' hb hlt1), hV', hb.frame _, fun h => by cases h⟩
theorem holds : Rows.FnExactFilterSaid :=
  OpenClaim.holds_of_wide 3 Tryz.f3 rfl rfl rfl rfl rfl rfl rfl ⟨rfl, rfl, rfl, rfl, rfl⟩ rfl rfl rfl rfl rfl (by kernel_rfl) Tryz.func3 (by kernel_rfl)
    (of_decide_eq_true (by kernel_rfl)) (by unfold Func.isWrapper; first | (rw [if_pos (by decide +kernel)]; kernel_rfl) | (rw [if_neg (by decide +kernel)]; exact ⟨rfl, rfl⟩))
    (fun os started H enc _ => lifted os started H enc)
theorem card_holds : Rows.FnExactFilterCardSaid :=
  Claim7.holds_tied_plain_at .later [] _ _ _ _ holds (fun _ h => by cases h) (by kernel_rfl) (fun _ h => by cases h) fnExactFilter_row_tie rfl ⟨rfl, rfl⟩ (by kernel_rfl) rfl
    (fun f fn hf hfn => by
      obtain rfl : f = 3 := Option.some.inj ((show Tryz.prog.funcNamed Rows.fnExactFilterRow.func = some 3 by kernel_rfl).symm.trans hf) |>.symm
      obtain rfl : fn = Tryz.f3 := (Option.some.inj (Tryz.func3.symm.trans hfn)).symm
      exact ⟨by kernel_rfl, fun j t ht => by
        rw [Tryz.params3] at ht
        have hm : t ∈ [24, 25] := by simpa using Array.mem_of_getElem? ht
        have hall : ([24, 25].all fun u => !Tryz.prog.wantsStandIn u) = true := by kernel_rfl
        exact (show Tryz.prog.wantsStandIn t = false by simpa using List.all_eq_true.1 hall t hm)⟩)
    (by kernel_rfl)
#print axioms card_holds
end Go.Proofs.YtoijkbkcfbbmfaaGreatDoor

