/- What is proved here: the law FnStacksDeep answers true for every input: the stack of a node is that of a node ahead with this node, and Preorder gives the same nodes. Conditions: none beyond those of the theorem itself. -/
import Derived.Deep.QuietTactic
import Derived.BigQuiet
import Derived.IntWalk
import Derived.Test.YtgadnenkkfkaaaaGreatFmtMk
import Derived.Test.YtgadnenkkfkaaaaGreatFmtMj
import Derived.Test.YtgadnenkkfkaaaaGreatFmtMr
import Derived.Test.YtgadnenkkfkaaaaGreatFmtMs
import Derived.Test.YtgadnenkkfkaaaaGreatFmtMl
set_option linter.all false
set_option linter.unusedVariables false
set_option linter.unusedSimpArgs false
/- What is proved here: spec.Events of a declaration. -/
namespace Go.Proofs.YtgadnenkkfkaaaaGreatFmt
open Go.RowKit Go.Shelf
set_option linter.unusedVariables false
set_option linter.unusedSimpArgs false
/-- What it gives: an owned row of texts. -/
def TextsPost (w : World) (L : List ByteArray) (e : Ending) (w' : World) : Prop := ∃ v', e = .returned v' ∧ Below w.heap.size w w' ∧ w'.ownsRow w.heap.size 9 1 v' L.length (L.map Value.string)
theorem ones_texts (L : List ByteArray) : ∀ u ∈ L.map Value.string, u.oneCell' = true := by
  intro u hu
  obtain ⟨s, _, rfl⟩ := List.mem_map.1 hu
  rfl

set_option maxHeartbeats 8000000 in
set_option maxRecDepth 100000 in
theorem specEvents_any (stop : ByteArray) (f : Nat) (hf : f ≤ 400) : ∀ {C : Nat → Nat → Value → Prop} {n : N} {t b : Nat}, Rep C n (Nd t b) → n.size ≤ f → ∀ (v : Value) (w : World), KidsAt (· < w.heap.size) w v n.kids →
    Calls Tryz.prog 15 #[n.val v, .string stop] w (TextsPost w (evs stop.toList f n)) := by
  induction f with
  | zero => intro C n t b hR hn; have := N.size_eq n; omega
  | succ f ih =>
    intro C n t b hR hn v w hk
    have hbr := hR.below_rep
    have hkl := kinds_le (f + 1) hR
    obtain ⟨i0, hi, hz0, hz1, hz2⟩ := info_parts infoString
    have HI0 := Lib.hid (And.intro hi (And.intro hz0 (And.intro hz1 hz2)))
    obtain ⟨a, cap, rfl, hcap, _⟩ := hk.shape
    have HIH := Lib.hid (fun (C : Nat → Nat → Value → Prop) (n : N) (t b : Nat) (hR : Rep C n (Nd t b)) => @ih (by omega) C n t b hR)
    have HR := Lib.hid hR
    have HK := Lib.hid hk
    have HBR := Lib.hid hbr
    have hes := (evs_le stop.toList (f + 1) n)
    have HES := Lib.hid (show (evs stop.toList (f + 1) n).length ≤ 4 * 400 by omega)
    have hbW := (Below.refl w.heap.size w).alloc (Nat.le_refl _) (Obj.cells #[Value.string n.kind, Value.string n.text, .slice a n.kids.length cap] 24)
    have hbW2 := hbW.alloc (by simp) (Obj.cells #[.string n.kind] 9)
    have how := own_new1 (w.alloc (Obj.cells #[Value.string n.kind, Value.string n.text, .slice a n.kids.length cap] 24)) (.string n.kind) 9 9 rfl
    clear hi hz0 hz1 hz2 ih hR hk hbr hkl hes
    cases hst : (n.kind.toList == stop.toList) with
    | true =>
      have hev : evs stop.toList (f + 1) n = [n.kind] := by simp [evs, hst]
      rw [hev]
      have HFIN := Lib.hid (And.intro hbW2 (own_mono how (by simp : w.heap.size ≤ _)))
      clear hbW hbW2 how
      unfold N.val
      go_enter Tryz.func15, Tryz.ntmps15
      go_wp2_with fail
      go_ret
      exact ⟨_, rfl, HFIN.out.1, by simpa using HFIN.out.2⟩
    | false =>
      have hev : evs stop.toList (f + 1) n = n.kind :: ((subs n).flatMap (evs stop.toList f) ++ [(⟨#[]⟩ : ByteArray)]) := by simp [evs, hst]
      rw [hev]
      rw [hev] at HES
      clear hev
      have HBW := Lib.hid hbW2
      have HOW := Lib.hid (own_mono how (by simp : w.heap.size ≤ _))
      have hsz2 : ((w.alloc (Obj.cells #[Value.string n.kind, Value.string n.text, .slice a n.kids.length cap] 24)).alloc (Obj.cells #[.string n.kind] 9)).heap.size = w.heap.size + 2 := by simp
      have BN : Blk ((w.alloc (Obj.cells #[Value.string n.kind, Value.string n.text, .slice a n.kids.length cap] 24)).alloc (Obj.cells #[.string n.kind] 9)) w.heap.size 24 #[Value.string n.kind, Value.string n.text, .slice a n.kids.length cap] := (Blk.new w _ 24).later ((Below.refl (w.heap.size + 1) _).alloc (by simp) _) (by omega)
      have n0 := BN.cell 0 _ rfl
      have n1 := BN.cell 1 _ rfl
      have n2 := BN.cell 2 _ rfl
      clear hbW hbW2 how BN
      unfold N.val
      go_enter Tryz.func15, Tryz.ntmps15
      go_wp2_with fail
      generalize (w.alloc (Obj.cells #[Value.string n.kind, Value.string n.text, .slice a n.kids.length cap] 24)).alloc (Obj.cells #[.string n.kind] 9) = w2 at HBW HOW hsz2 n0 n1 n2 ⊢
      refine (below_any HR.out (by omega) w.heap.size _ w2 (by omega) (HK.out.under HBW.out)).mono ?_
      rintro e w3 ⟨kv, rfl, hb3, hkv⟩
      obtain ⟨ak, ck, rfl, hck, _⟩ := hkv.shape
      have hs3 := hb3.size
      have hlm : (subs n).length ≤ 1000000 := by
        have h1 := HBR.out
        exact subs_len HR.out (by omega)
      have HREL : Hid (RowRel (fun b => b < w.heap.size ∨ (w2.heap.size ≤ b ∧ b < w3.heap.size)) w w3.heap.size (.slice ak (subs n).length ck) (subs n) 9 1 (n.kind :: ((subs n).take 0).flatMap (evs stop.toList f)).length (((n.kind :: ((subs n).take 0).flatMap (evs stop.toList f))).map Value.string) (.slice (some ⟨w.heap.size + 1, 0, none⟩) 1 1) w3) := Lib.hid ⟨by simpa using owns_kept HOW.out hb3, hkv, fun g hg hx => by
        simp [Value.ownBlock] at hg
        omega, HBW.out.trans (hb3.mono (by omega)), Nat.le_refl _⟩
      have hok : ∀ b, (b < w.heap.size ∨ (w2.heap.size ≤ b ∧ b < w3.heap.size)) → b < w3.heap.size := fun b hb => by omega
      have HOK := Lib.hid hok
      have hT : ∀ j, (n.kind :: ((subs n).take j).flatMap (evs stop.toList f)).length ≤ 1600 := fun j => by
        have h1 := fm_take_le (evs stop.toList f) (subs n) j
        have h2 := HES.out
        simp only [List.length_cons, List.length_append, List.length_nil] at h2 ⊢
        omega
      have HT := Lib.hid hT
      clear hkv hb3 hok hT n0 n1 n2
      go_wp2_with fail
      go_loopw [19, 5] (fun vi out wr => ∃ j : Nat, j ≤ (subs n).length ∧ vi = .int .i64 j ∧ RowRel (fun b => b < w.heap.size ∨ (w2.heap.size ≤ b ∧ b < w3.heap.size)) w w3.heap.size (.slice ak (subs n).length ck) (subs n) 9 1 (n.kind :: ((subs n).take j).flatMap (evs stop.toList f)).length (((n.kind :: ((subs n).take j).flatMap (evs stop.toList f))).map Value.string) out wr) (fun vi _ _ => (subs n).length - (intOf vi).toNat)
      case atStart => exact ⟨0, Nat.zero_le _, rfl, HREL.out⟩
      case round =>
        obtain ⟨j, hj, rfl, hrl⟩ := hrel
        have hsr : w3.heap.size ≤ wr.heap.size := hrl.hi
        by_cases hjl : j < (subs n).length
        · have hjl' : (j : Int) < (((subs n).length : Nat) : Int) := by omega
          obtain ⟨x, hget⟩ : ∃ x, (subs n)[j]? = some x := ⟨_, List.getElem?_eq_getElem hjl⟩
          obtain ⟨aS, capS, hvS, _, hel⟩ := hrl.kids.shape
          obtain ⟨bb, oo, V, hae, hbb, c0, c1, c2, hV⟩ := hel j _ hget
          simp only [Value.slice.injEq] at hvS
          obtain ⟨rfl, _, rfl⟩ := hvS
          obtain rfl := hae
          obtain ⟨hxs, tx, bx, hRx⟩ := HBR.out x (List.mem_of_getElem? hget)
          have hstep := take_fm (evs stop.toList f) hget
          obtain ⟨ax, cx, rfl, _, _⟩ := hV.shape
          have hbx : Below wr.heap.size wr (wr.alloc (Obj.cells #[Value.string x.kind, Value.string x.text, Value.slice ax x.kids.length cx] 24)) := (Below.refl wr.heap.size wr).alloc (Nat.le_refl _) _
          have HRL := Lib.hid (hrl.later HOK.out hbx)
          have HV := Lib.hid ((hV.mono fun b hb => Nat.lt_of_lt_of_le (HOK.out b hb) hsr).later hbx)
          have HXX := Lib.hid (And.intro hRx (show x.size ≤ f by omega))
          have hstl : (n.kind :: ((subs n).take (j + 1)).flatMap (evs stop.toList f)) = (n.kind :: ((subs n).take j).flatMap (evs stop.toList f)) ++ evs stop.toList f x := by rw [hstep]; rfl
          have HSTEP := Lib.hid hstl
          have HTJ := Lib.hid (And.intro (HT.out j) (HT.out (j + 1)))
          have hxn : (evs stop.toList f x).length ≤ 1600 := by
            have h1 := (HTJ.out).2
            rw [hstl, List.length_append] at h1
            omega
          have HXN := Lib.hid hxn
          clear hV hbx hrl hRx hxs hstep hstl hel hget hxn
          go_wp2_with fail
          refine (HIH.out _ _ _ _ HXX.out.1 HXX.out.2 _ _ HV.out).mono ?_
          rintro e w5 ⟨v5, rfl, hb5, hown5⟩
          have HRL5 := Lib.hid (HRL.out.later HOK.out hb5)
          obtain ⟨a5, c5, rfl, hn5⟩ := row_news hown5
          have HN5 := Lib.hid hn5
          have H5Z := Lib.hid hown5.1
          clear hb5 hown5 hn5
          go_wp2_with (at_builtin; refine wpl_app_row rfl (.tmp 23) (.tmp 26) 34 rfl w.heap.size 9 i0 (.string ⟨#[]⟩) 1 16 underStrings HI0.out.1 HI0.out.2.1 HI0.out.2.2.1 HI0.out.2.2.2 rfl (by decide) _ _ _ rfl HRL5.out.own a5 _ c5 _ rfl H5Z.out HN5.out (ones_texts _) (by have h1 := HTJ.out.1; have h2 := HXN.out; unfold maxLen; omega) (by have h1 := HTJ.out.1; have h2 := HXN.out; omega) HRL5.out.low.size ?_; intro v6 w6 hown6 hg6 hw6; have HRL6 := Lib.hid (HRL5.out.app HOK.out hown6 hg6 hw6); clear hown6 hg6 hw6)
          go_roundw
          case rel => exact ⟨j + 1, by omega, by go_num, by rw [HSTEP.out]; rw [List.map_append, List.length_append]; exact HRL6.out⟩
          case measure => simp [intOf]; omega
        · have e : j = (subs n).length := by omega
          have htk : (subs n).take j = subs n := List.take_of_length_le (by omega)
          rw [htk] at hrl
          have HRL := Lib.hid (hrl.later HOK.out ((Below.refl wr.heap.size wr).alloc (Nat.le_refl _) (Obj.cells #[.string ⟨#[]⟩] 9)))
          have hTL := HT.out (subs n).length
          rw [List.take_of_length_le (Nat.le_refl _)] at hTL
          have HTL := Lib.hid hTL
          clear hrl htk hTL
          subst e
          go_wp2_with (at_builtin; refine wpl_app_row rfl (.tmp 29) (.tmp 30) 34 rfl w.heap.size 9 i0 (.string ⟨#[]⟩) 1 16 underStrings HI0.out.1 HI0.out.2.1 HI0.out.2.2.1 HI0.out.2.2.2 rfl (by decide) _ _ _ rfl HRL.out.own (some ⟨wr.heap.size, 0, none⟩) 1 1 [.string ⟨#[]⟩] rfl rfl (fun j u hj => ⟨_, rfl, World.news_of_block (heap_alloc_new wr (.cells #[.string ⟨#[]⟩] 9)) j u hj⟩) (fun u hu => by simp at hu; subst hu; rfl) (by have h1 := HTL.out; unfold maxLen; omega) (by have h1 := HTL.out; omega) HRL.out.low.size ?_; intro v6 w6 hown6 hg6 hw6; have HRL6 := Lib.hid (HRL.out.app HOK.out hown6 hg6 hw6); clear hown6 hg6 hw6)
          go_ret
          exact ⟨_, rfl, HRL6.out.low, (by simpa [List.map_append] using HRL6.out.own)⟩
end Go.Proofs.YtgadnenkkfkaaaaGreatFmt

/- What is proved here: the law FnExactEvents answers true, whatever the declaration. -/
namespace Go.Proofs.YtgadnenkkfkaaaaGreatFmt
open Go.RowKit Go.Shelf
set_option linter.unusedVariables false
set_option linter.unusedSimpArgs false
attribute [local go_sem ↓] Go.wp_at_zero Go.wp_at_succ
theorem TokTab.below {w w' : World} (h : TokTab w) (hb : Below w.heap.size w w') (h0 : 0 < w.heap.size) : TokTab w' := fun i t hi => by
  obtain ⟨x, hx, hc⟩ := h i t hi
  exact ⟨x, hx, (hb.cell (p := ⟨0, 61 + i, none⟩) h0).trans hc⟩
/-- A declaration of the shape lies in memory as some tree. -/
theorem rep_of_shape {n : N} {v : Value} {w : World} (hs : shapedB n = true) (hk : KidsAt (· < w.heap.size) w v n.kids) (hT : TokTab w) (h0 : 0 < w.heap.size) : ∃ (C : Nat → Nat → Value → Prop) (t b : Nat), Rep C n (Nd t b) := by
  obtain ⟨e, w', fr, ⟨t, b, _, _, hM⟩, _⟩ := build_any n v w hs hk hT h0 []
  exact ⟨_, t, b, hM.2⟩
theorem row_texts {w : World} {base n : Nat} {v : Value} {L : List ByteArray} (h : w.ownsRow base 9 1 v n (L.map Value.string)) : RowAt w 1 v n (fun i _ => Value.string (L.getD i ⟨#[]⟩)) := by
  have hn : L.length = n := by have := h.1; simpa using this
  refine (RowAt.of_owns h).congr fun i j hi hj => ?_
  have hj0 : j = 0 := by omega
  subst hj0
  have hi' : i < L.length := by omega
  simp [List.getD_eq_getElem?_getD, hi']

set_option maxHeartbeats 4000000 in
set_option maxRecDepth 100000 in
theorem law_events (n : N) (v : Value) (stop : ByteArray) (w : World) (hk : KidsAt (· < w.heap.size) w v n.kids) (hT : TokTab w) (h0 : 0 < w.heap.size) :
    Calls Tryz.prog 4 #[n.val v, .string stop] w fun e w' => e = .returned (.bool true) ∧ Below w.heap.size w w' := by
  obtain ⟨a, cap, rfl, hcap, _⟩ := hk.shape
  have BN : Blk (boxN w n (.slice a n.kids.length cap)) w.heap.size 24 #[Value.string n.kind, Value.string n.text, .slice a n.kids.length cap] := Blk.new w _ _
  have hbW : Below w.heap.size w (boxN w n (.slice a n.kids.length cap)) := (Below.refl w.heap.size w).alloc (Nat.le_refl _) _
  have hsw : w.heap.size + 1 ≤ (boxN w n (.slice a n.kids.length cap)).heap.size := by simp [boxN]
  have e0 := BN.cell 0 _ rfl
  have e1 := BN.cell 1 _ rfl
  have e2 := BN.cell 2 _ rfl
  have HBN := Lib.hid BN
  have HBW := Lib.hid hbW
  have HK := Lib.hid hk
  have HT := Lib.hid hT
  have H0 := Lib.hid h0
  clear BN hbW hk hT h0
  unfold N.val
  go_enter Tryz.func4, Tryz.ntmps4
  go_wp2_with fail
  simp only [boxN] at HBN HBW hsw e0 e1 e2
  generalize w.alloc (Obj.cells #[Value.string n.kind, Value.string n.text, .slice a n.kids.length cap] 24) = w1 at HBN HBW hsw e0 e1 e2 ⊢
  refine (fits1_any n a cap _).mono ?_
  rintro e w2 ⟨rfl, hb2⟩
  have hs2 := hb2.size
  have BN2 := HBN.out.later hb2 (by omega)
  have HBX := Lib.hid (HBW.out.trans (hb2.mono HBW.out.size))
  have d0 := BN2.cell 0 _ rfl
  have d1 := BN2.cell 1 _ rfl
  have d2 := BN2.cell 2 _ rfl
  have dn := BN2.lt
  have HBN2 := Lib.hid BN2
  clear BN2 hb2
  cases hf : fits1 n with
  | false =>
    clear hf
    go_wp2_with fail
    go_ret
    exact ⟨rfl, HBX.out⟩
  | true =>
    clear hf
    by_cases hst : stop.size ≤ 2147483647
    · have hst1 : (stop.size : Int) ≤ 2147483647 := by omega
      have hst2 : ¬ 2147483647 < (stop.size : Int) := by omega
      have hst3 : ¬ 2147483647 < stop.size := by omega
      go_wp2_with fail
      refine (shaped_any n _ _ (HK.out.later HBX.out)).mono ?_
      rintro e w3 ⟨rfl, hb3⟩
      have hs3 := hb3.size
      have BN3 := HBN2.out.later hb3 (by omega)
      have HB3 := Lib.hid (HBX.out.trans (hb3.mono HBX.out.size))
      have d0 := BN3.cell 0 _ rfl
      have d1 := BN3.cell 1 _ rfl
      have d2 := BN3.cell 2 _ rfl
      have dn := BN3.lt
      have HBN3 := Lib.hid BN3
      clear BN3 hb3
      cases hs : shapedB n with
      | false =>
        clear hs
        go_wp2_with fail
        go_ret
        exact ⟨rfl, HB3.out⟩
      | true =>
        have HS := Lib.hid hs
        have hk3 := HK.out.later HB3.out
        have hT3 := HT.out.below HB3.out H0.out
        have h03 : 0 < w3.heap.size := by omega
        obtain ⟨C, t, b, hR⟩ := rep_of_shape hs hk3 hT3 h03
        have hsz := shaped_small hs
        have hlen : (evs stop.toList 400 n).length ≤ 1600 := by
          have h1 := evs_le stop.toList 400 n
          have h2 := kinds_le 400 hR
          omega
        have HSZ := Lib.hid hsz
        have HR := Lib.hid hR
        have HDR : Hid (Below w3.heap.size w3 w3.drew) := Lib.hid (Below.refl _ _).drew
        have HK3 := Lib.hid (hk3.later HDR.out)
        have HT3 := Lib.hid (hT3.below HDR.out h03)
        have HBN4 := Lib.hid (HBN3.out.later HDR.out (by omega))
        have h03d : 0 < w3.drew.heap.size := h03
        have hwd : w.heap.size < w3.drew.heap.size := (show w.heap.size < w3.heap.size by omega)
        have HLEN := Lib.hid hlen
        clear hs hk3 hT3 hR hsz hlen
        go_wp2_with fail
        go_region_law (first
          | (refine step_call (by rfl) 14 _ _ (by rfl) #[.agg #[.string n.kind, .string n.text, .slice a n.kids.length cap], .string stop] (by first | rfl | (simp [Act.eval]; done) | (simp [Act.eval, Act.put]; done)) (enters_of Tryz.func14 (by kernel_rfl) rfl) (events_any n _ stop w3.drew HS.out HK3.out HT3.out h03d) ?_
             rintro e w5 ⟨r5, rfl, hown5, hb5⟩
             refine ⟨_, rfl, ?_⟩
             have h5z : w3.heap.size ≤ w5.heap.size := hb5.size
             have HI5 : Hid (w5.ownsRow w3.heap.size 9 1 r5 (evs stop.toList 400 n).length ((evs stop.toList 400 n).map Value.string) ∧ Below w3.drew.heap.size w3.drew w5) := Lib.hid ⟨hown5, hb5⟩
             have BN5 := HBN4.out.later hb5 hwd
             have d0 := BN5.cell 0 _ rfl
             have d1 := BN5.cell 1 _ rfl
             have d2 := BN5.cell 2 _ rfl
             have dn := BN5.lt
             clear BN5
             clear hown5 hb5)
          | (refine step_call (by rfl) 15 _ _ (by rfl) #[.agg #[.string n.kind, .string n.text, .slice a n.kids.length cap], .string stop] (by first | rfl | (simp [Act.eval]; done) | (simp [Act.eval, Act.put]; done)) (enters_of Tryz.func15 (by kernel_rfl) rfl) (specEvents_any stop 400 (Nat.le_refl _) HR.out HSZ.out _ w5 (HK3.out.later HI5.out.2)) ?_
             rintro e w6 ⟨r6, rfl, hb6, hown6⟩
             refine ⟨_, rfl, ?_⟩
             have HR1 : Hid (w6.ownsRow w3.heap.size 9 1 r5 (evs stop.toList 400 n).length ((evs stop.toList 400 n).map Value.string)) := Lib.hid (owns_kept HI5.out.1 hb6)
             have HR2 : Hid (w6.ownsRow w3.heap.size 9 1 r6 (evs stop.toList 400 n).length ((evs stop.toList 400 n).map Value.string)) := Lib.hid (own_mono hown6 h5z)
             have HB6 : Hid (Below w3.heap.size w3 w6) := Lib.hid (HDR.out.trans (HI5.out.2.trans (hb6.mono h5z)))
             clear hown6 hb6)
          | (refine step_call (by rfl) 15 _ _ (by rfl) #[.agg #[.string n.kind, .string n.text, .slice a n.kids.length cap], .string stop] (by first | rfl | (simp [Act.eval]; done) | (simp [Act.eval, Act.put]; done)) (enters_of Tryz.func15 (by kernel_rfl) rfl) (specEvents_any stop 400 (Nat.le_refl _) HR.out HSZ.out _ w3.drew HK3.out) ?_
             rintro e w5 ⟨r6, rfl, hb5, hown5⟩
             refine ⟨_, rfl, ?_⟩
             have h5z : w3.heap.size ≤ w5.heap.size := hb5.size
             have HS5 : Hid (w5.ownsRow w3.heap.size 9 1 r6 (evs stop.toList 400 n).length ((evs stop.toList 400 n).map Value.string) ∧ Below w3.drew.heap.size w3.drew w5) := Lib.hid ⟨hown5, hb5⟩
             have BN5 := HBN4.out.later hb5 hwd
             have d0 := BN5.cell 0 _ rfl
             have d1 := BN5.cell 1 _ rfl
             have d2 := BN5.cell 2 _ rfl
             have dn := BN5.lt
             clear BN5
             clear hown5 hb5)
          | (refine step_call (by rfl) 14 _ _ (by rfl) #[.agg #[.string n.kind, .string n.text, .slice a n.kids.length cap], .string stop] (by first | rfl | (simp [Act.eval]; done) | (simp [Act.eval, Act.put]; done)) (enters_of Tryz.func14 (by kernel_rfl) rfl) (events_any n _ stop w5 HS.out (HK3.out.later HS5.out.2) (HT3.out.below HS5.out.2 h03d) (by omega)) ?_
             rintro e w6 ⟨r5, rfl, hown6, hb6⟩
             refine ⟨_, rfl, ?_⟩
             have HR1 : Hid (w6.ownsRow w3.heap.size 9 1 r5 (evs stop.toList 400 n).length ((evs stop.toList 400 n).map Value.string)) := Lib.hid (own_mono hown6 h5z)
             have HR2 : Hid (w6.ownsRow w3.heap.size 9 1 r6 (evs stop.toList 400 n).length ((evs stop.toList 400 n).map Value.string)) := Lib.hid (owns_kept HS5.out.1 hb6)
             have HB6 : Hid (Below w3.heap.size w3 w6) := Lib.hid (HDR.out.trans (HS5.out.2.trans (hb6.mono h5z)))
             clear hown6 hb6)
          | (refine step_call (by rfl) 13 _ _ (by rfl) #[r5, r6] (by first | rfl | (simp [Act.eval]; done) | (simp [Act.eval, Act.put]; done)) (enters_of Tryz.func13 (by kernel_rfl) rfl) (eq_strings _ r5 r6 _ _ (by have := HLEN.out; omega) (row_texts HR1.out) (row_texts HR2.out)) ?_
             rintro e w7 ⟨rfl, q, rfl⟩
             refine ⟨_, rfl, ?_⟩))
        all_goals go_wp2_with fail
        all_goals go_ret
        all_goals exact ⟨rfl, (HB3.out.trans (HB6.out.mono HB3.out.size)).trans ⟨rfl, rfl, rfl, Nat.le_refl _, fun _ _ => rfl⟩⟩
    · have hst1 : ¬ (stop.size : Int) ≤ 2147483647 := by omega
      have hst2 : (2147483647 : Int) < (stop.size : Int) := by omega
      have hst3 : 2147483647 < stop.size := by omega
      go_wp2_with fail
      go_ret
      exact ⟨rfl, HBX.out⟩
end Go.Proofs.YtgadnenkkfkaaaaGreatFmt

/- What is proved here: the law FnStacksDeep answers true, whatever the declaration. -/
namespace Go.Proofs.YtgadnenkkfkaaaaGreatFmt
open Go.RowKit Go.Shelf
set_option linter.unusedVariables false
set_option linter.unusedSimpArgs false
attribute [local go_sem ↓] Go.wp_at_zero Go.wp_at_succ

/-- A quiet callee in a world that has drawn already. -/
theorem quiet_sum {f : FuncId} {args : Array Value} {w : World} {q x : Nat} {v : Value} (h : Calls Tryz.prog f args (w.drewN (q + x)) fun e w' => e = .returned v ∧ ∃ m, w' = (w.drewN (q + x)).drewN m) :
    Calls Tryz.prog f args (w.drewN (q + x)) fun e w'' => e = .returned v ∧ ∃ n, w'' = w.drewN (q + n) :=
  h.mono fun _ _ ⟨he, m, hm⟩ => ⟨he, x + m, by rw [hm, World.drewN_drewN, Nat.add_assoc]⟩
/-- What is known of a row. -/
theorem row_last {L : List (List ByteArray)} {K : List ByteArray} (h : L.map List.getLast? = K.map some) {j : Nat} {r : List ByteArray} (hr : L[j]? = some r) : ∃ m s, r.length = m + 1 ∧ r[m]? = some s ∧ K[j]? = some s := by
  have h1 := congrArg (fun l => l[j]?) h
  simp only [List.getElem?_map, hr, Option.map_some] at h1
  cases hk : K[j]? with
  | none => rw [hk] at h1; simp at h1
  | some s =>
    rw [hk] at h1
    simp only [Option.map_some, Option.some.injEq] at h1
    have hne : r ≠ [] := by rintro rfl; simp at h1
    have hp := List.length_pos_iff.2 hne
    refine ⟨r.length - 1, s, by omega, ?_, rfl⟩
    rw [← List.getLast?_eq_getElem?]
    exact h1
theorem rows_at {w : World} {base : Nat} {bad : Nat → Prop} {L : List (List ByteArray)} {us : List Value} (h : RowsIn w base bad L us) {j : Nat} {r : List ByteArray} (hr : L[j]? = some r) : ∃ g cp, us[j]? = some (.slice (some ⟨g, 0, none⟩) r.length cp) ∧ r.length ≤ cp ∧ (∀ i s, r[i]? = some s → w.cell? ⟨g, i, none⟩ = some (.string s)) := by
  obtain ⟨g, cp, h1, h2, _, _, _, h6⟩ := h.2 j r hr
  exact ⟨g, cp, h1, h2, h6⟩
theorem row_of_cells {w : World} {g k c : Nat} {r : List ByteArray} (h : ∀ i s, r[i]? = some s → w.cell? ⟨g, i, none⟩ = some (.string s)) (hk : k ≤ r.length) : RowAt w 1 (.slice (some ⟨g, 0, none⟩) k c) k (fun i _ => Value.string (r.getD i ⟨#[]⟩)) := by
  refine ⟨_, c, rfl, fun i hi => ⟨g, 0, rfl, fun j hj => ?_⟩⟩
  have hj0 : j = 0 := by omega
  subst hj0
  have hi' : i < r.length := by omega
  have h1 := h i r[i] (List.getElem?_eq_getElem hi')
  simpa [List.getD_eq_getElem?_getD, hi'] using h1
set_option maxHeartbeats 4000000 in
set_option maxRecDepth 100000 in
theorem law_deep (n : N) (v : Value) (w : World) (hk : KidsAt (· < w.heap.size) w v n.kids) (hT : TokTab w) (h0 : 0 < w.heap.size) :
    Calls Tryz.prog 7 #[n.val v] w fun e w' => e = .returned (.bool true) ∧ Below w.heap.size w w' := by
  obtain ⟨a, cap, rfl, hcap, _⟩ := hk.shape
  have BN : Blk (boxN w n (.slice a n.kids.length cap)) w.heap.size 24 #[Value.string n.kind, Value.string n.text, .slice a n.kids.length cap] := Blk.new w _ _
  have hbW : Below w.heap.size w (boxN w n (.slice a n.kids.length cap)) := (Below.refl w.heap.size w).alloc (Nat.le_refl _) _
  have hsw : w.heap.size + 1 ≤ (boxN w n (.slice a n.kids.length cap)).heap.size := by simp [boxN]
  have e0 := BN.cell 0 _ rfl
  have e1 := BN.cell 1 _ rfl
  have e2 := BN.cell 2 _ rfl
  have HBN := Lib.hid BN
  have HBW := Lib.hid hbW
  have HK := Lib.hid hk
  have HT := Lib.hid hT
  have H0 := Lib.hid h0
  clear BN hbW hk hT h0
  unfold N.val
  go_enter Tryz.func7, Tryz.ntmps7
  go_wp2_with fail
  simp only [boxN] at HBN HBW hsw e0 e1 e2
  generalize w.alloc (Obj.cells #[Value.string n.kind, Value.string n.text, .slice a n.kids.length cap] 24) = w1 at HBN HBW hsw e0 e1 e2 ⊢
  refine (fits1_any n a cap _).mono ?_
  rintro e w2 ⟨rfl, hb2⟩
  have hs2 := hb2.size
  have BN2 := HBN.out.later hb2 (by omega)
  have HBX := Lib.hid (HBW.out.trans (hb2.mono HBW.out.size))
  have d0 := BN2.cell 0 _ rfl
  have d1 := BN2.cell 1 _ rfl
  have d2 := BN2.cell 2 _ rfl
  have dn := BN2.lt
  have HBN2 := Lib.hid BN2
  clear BN2 hb2
  cases hf : fits1 n with
  | false =>
    clear hf
    go_wp2_with fail
    go_ret
    exact ⟨rfl, HBX.out⟩
  | true =>
    clear hf
    go_wp2_with fail
    refine (shaped_any n _ _ (HK.out.later HBX.out)).mono ?_
    rintro e w3 ⟨rfl, hb3⟩
    have hs3 := hb3.size
    have BN3 := HBN2.out.later hb3 (by omega)
    have HB3 := Lib.hid (HBX.out.trans (hb3.mono HBX.out.size))
    have d0 := BN3.cell 0 _ rfl
    have d1 := BN3.cell 1 _ rfl
    have d2 := BN3.cell 2 _ rfl
    have dn := BN3.lt
    have HBN3 := Lib.hid BN3
    clear BN3 hb3
    cases hs : shapedB n with
    | false =>
      clear hs
      go_wp2_with fail
      go_ret
      exact ⟨rfl, HB3.out⟩
    | true =>
      have HS := Lib.hid hs
      have hk3 := HK.out.later HB3.out
      have hT3 := HT.out.below HB3.out H0.out
      have h03 : 0 < w3.heap.size := by omega
      obtain ⟨C, t, b, hR⟩ := rep_of_shape hs hk3 hT3 h03
      have hsz := shaped_small hs
      have hkl := kinds_le 400 hR
      have hK0 : (kinds 400 n).length ≤ 800 := by omega
      have hK1 : 1 ≤ (kinds 400 n).length := by simp [kinds]
      have hlast := stacks_last 400 [] hR
      obtain ⟨⟨hchain, _⟩, hhead⟩ := stacks_rows [] 400 [] n
      have hlen : (stacks [] 400 [] n).length = (kinds 400 n).length := by have h := congrArg List.length hlast; simpa using h
      have hshort : ∀ r ∈ stacks [] 400 [] n, r.length ≤ 400 := fun r h => by have := stacks_short [] 400 [] n r h; simpa using this
      have HSHORT := Lib.hid hshort
      have HLAST := Lib.hid hlast
      have HCHAIN := Lib.hid hchain
      have HHEAD := Lib.hid hhead
      have HK3 := Lib.hid hk3
      have HT3 := Lib.hid hT3
      clear hs hk3 hT3 hR hsz hkl hlast hchain hhead hshort
      go_wp2_with fail
      refine (stacks_any n _ ⟨#[]⟩ w3 HS.out HK3.out HT3.out h03).mono ?_
      rintro e w5 ⟨u5, us, bad, rfl, hown5, hins, hb5⟩
      rw [show (⟨#[]⟩ : ByteArray).toList = [] by rw [ByteArray.toList_eq]] at hown5 hins
      have hs5 := hb5.size
      have BN5 := HBN3.out.later hb5 (by omega)
      have HB5 := Lib.hid (HB3.out.trans (hb5.mono HB3.out.size))
      have HK5 := Lib.hid (HK3.out.later hb5)
      have HT5 := Lib.hid (HT3.out.below hb5 h03)
      have d0 := BN5.cell 0 _ rfl
      have d1 := BN5.cell 1 _ rfl
      have d2 := BN5.cell 2 _ rfl
      have dn := BN5.lt
      obtain ⟨au, cu, hrr, hcu, _⟩ := owns_form hown5
      subst hrr
      have HOWN5 := Lib.hid hown5
      have HINS := Lib.hid hins
      clear BN5 hb5 hown5 hins
      generalize hLL : stacks [] 400 [] n = L at HSHORT HLAST HCHAIN HHEAD HOWN5 HINS hcu hlen ⊢
      have HLL := Lib.hid hLL
      clear hLL
      go_wp2_with fail
      refine (yields_any n _ 1000 w5 HS.out HK5.out HT5.out (by omega)).mono ?_
      rintro e w6 ⟨v6, L6, rfl, ⟨hpre, hor, _, _⟩, hown6, hb6⟩
      have hLK : L6 = kinds 400 n := by
        rcases hor with h | h
        · exact h
        · have h1 := hpre.length_le
          omega
      subst hLK
      have hs6 := hb6.size
      have HB6 := Lib.hid (HB5.out.trans (hb6.mono (by omega)))
      have hown5 := owns_kept HOWN5.out hb6
      have hins : ∀ (j : Nat) (r : List ByteArray), L[j]? = some r → ∃ (g cp : Nat), us[j]? = some (Value.slice (some ⟨g, 0, none⟩) r.length cp) ∧ r.length ≤ cp ∧ (∀ i s, r[i]? = some s → w6.cell? ⟨g, i, none⟩ = some (.string s)) := fun j r hr => by
        obtain ⟨g, cp, h1, h2, h3⟩ := rows_at HINS.out hr
        exact ⟨g, cp, h1, h2, fun i s hi => cell_keep hb6 (h3 i s hi)⟩
      obtain ⟨a1, c1, e1, hu⟩ := RowAt.of_owns hown5
      simp only [Value.slice.injEq] at e1
      obtain ⟨rfl, _, rfl⟩ := e1
      obtain ⟨ak, ck, rfl, hkk⟩ := row_texts hown6
      have HU := Lib.hid hu
      have HKK := Lib.hid hkk
      have HROWS := Lib.hid hins
      obtain ⟨R, hRR⟩ : ∃ R, R = (kinds 400 n).length := ⟨_, rfl⟩
      simp only [hlen, ← hRR] at HU HKK hK0 hK1 ⊢
      have hlen' : L.length = R := by omega
      have hne : ¬ (R : Int) = 0 := by omega
      have hneb : ((R : Int) == 0) = false := by simp; omega
      have hRpos : (0 : Int) < (R : Int) := by omega
      clear hown5 hown6 hor hpre hb6 hu hkk hins hlen hRR d0 d1 d2 dn
      go_wp2_with fail
      go_loopw [29] (fun i wr => ∃ j q : Nat, j ≤ R ∧ i = .int .i64 j ∧ wr = w6.drewN q) (fun i _ => R - (intOf i).toNat)
      case atStart => exact ⟨0, 0, Nat.zero_le _, rfl, rfl⟩
      case round =>
        obtain ⟨j, q, hj, rfl, rfl⟩ := hrel
        by_cases hjl : j < R
        · have hjl' : (j : Int) < (R : Int) := by omega
          obtain ⟨r, hr⟩ : ∃ r, L[j]? = some r := ⟨_, List.getElem?_eq_getElem (by omega)⟩
          obtain ⟨m, s, hM, hrm, hks⟩ := row_last HLAST.out hr
          obtain ⟨g, cp, hus, hcp, hcl⟩ := HROWS.out j r hr
          obtain ⟨bu, ou, rfl, c0⟩ := HU.out j hjl
          obtain ⟨bk, okk, rfl, k0⟩ := HKK.out j hjl
          have x0 : w6.cell? ⟨bu, ou + j, none⟩ = some (.slice (some ⟨g, 0, none⟩) (m + 1) cp) := by
            have h0 := c0 0 (by omega)
            simpa [List.getD_eq_getElem?_getD, hus, hM] using h0
          have x1 : w6.cell? ⟨bk, okk + j, none⟩ = some (.string s) := by
            have h0 := k0 0 (by omega)
            simpa [List.getD_eq_getElem?_getD, hks] using h0
          have x2 : w6.cell? ⟨g, m, none⟩ = some (.string s) := hcl m s hrm
          have hm8 : m < 100000 := by
            have := HSHORT.out r (List.mem_of_getElem? hr)
            omega
          obtain ⟨M, hMM⟩ : ∃ M, m + 1 = M := ⟨_, rfl⟩
          rw [hMM] at x0 hM
          have hmc : m ≤ cp := by omega
          have hMne : ¬ (M : Int) = 0 := by omega
          have hMneb : ((M : Int) == 0) = false := by simp; omega
          have hsub : IntKind.i64.wrap ((M : Int) - 1) = (m : Int) := by rw [IntWalk.i64_in _ (by omega)]; omega
          have hmM : (m : Int) < (M : Int) := by omega
          have HCL := Lib.hid hcl
          clear c0 k0 hus hks hcl hrm
          by_cases hj0 : j = 0
          · subst hj0
            simp only [Nat.add_zero] at x0 x1
            have hd : decide ((0 : Int) < ((0 : Nat) : Int)) = false := by decide
            go_wp2_with fail
            go_quiet (fail)
            go_wp2_with fail
            go_roundw
            case measure => simp [intOf]; omega
            case rel => exact ⟨1, _, by omega, by go_num, rfl⟩
          · obtain ⟨i, hij⟩ : ∃ i, i + 1 = j := ⟨j - 1, by omega⟩
            obtain ⟨p, hp⟩ : ∃ p, L[i]? = some p := ⟨_, List.getElem?_eq_getElem (by omega)⟩
            obtain ⟨hn1, hn2, hn3⟩ := HCHAIN.out.at hp (show L[i + 1]? = some r by rw [hij]; exact hr)
            obtain ⟨g', cp', hus', hcp', hcl'⟩ := HROWS.out i p hp
            have y0 : w6.cell? ⟨bu, ou + i, none⟩ = some (.slice (some ⟨g', 0, none⟩) p.length cp') := by
              obtain ⟨bu', ou', e, c0⟩ := HU.out i (by omega)
              simp only [Option.some.injEq, Addr.mk.injEq] at e
              obtain ⟨rfl, rfl, _⟩ := e
              have h0 := c0 0 (by omega)
              simpa [List.getD_eq_getElem?_getD, hus'] using h0
            obtain ⟨Pn, hPn⟩ : ∃ Pn, p.length = Pn := ⟨_, rfl⟩
            rw [hPn] at y0
            have HR1 := Lib.hid (row_of_cells (k := m) (c := cp) HCL.out (by omega))
            have HR2 : Hid (RowAt w6 1 (.slice (some ⟨g', 0, none⟩) m cp') m (fun i _ => Value.string (r.getD i ⟨#[]⟩))) := Lib.hid ((row_of_cells (k := m) (c := cp') hcl' (by omega)).congr fun x _ hx _ => by
              have h1 := congrArg (fun l => l[x]?) hn3
              simp only [List.getElem?_dropLast, List.getElem?_take] at h1
              rw [if_pos (by omega), if_pos (by omega)] at h1
              simp only [List.getD_eq_getElem?_getD, h1])
            have hsi : IntKind.i64.wrap ((j : Int) - 1) = (i : Int) := by rw [IntWalk.i64_in _ (by omega)]; omega
            have hsP : IntKind.i64.wrap ((Pn : Int) + 1) = (Pn : Int) + 1 := IntWalk.i64_in _ (by have := HSHORT.out p (List.mem_of_getElem? hp); omega)
            have hd : decide ((0 : Int) < (j : Int)) = true := decide_eq_true (by omega)
            have hd2 : decide ((M : Int) < 2) = false := decide_eq_false (by omega)
            have hd3 : decide ((Pn : Int) + 1 < (M : Int)) = false := decide_eq_false (by omega)
            have hmc' : m ≤ cp' := by omega
            have hjn : decide (0 < j) = true := decide_eq_true (by omega)
            have hd2n : decide (M < 2) = false := decide_eq_false (by omega)
            have hd3n : decide (Pn + 1 < M) = false := decide_eq_false (by omega)
            have hil : (i : Int) < (R : Int) := by omega
            have hjp : (0 : Int) < (j : Int) := by omega
            have hm1 : m ≤ 1000000 := by omega
            clear hus' hcl' hn3 hp hr
            go_wp2_with fail
            go_quiet ((exact quiet_sum (eq_strings m _ _ _ _ hm1 (HR1.out.drewN _) (HR2.out.drewN _))))
            go_wp2_with fail
            go_roundw
            case measure => simp [intOf]; omega
            case rel => exact ⟨j + 1, _, by omega, by go_num, rfl⟩
        · have e : j = R := by omega
          subst e
          obtain ⟨r, hr⟩ : ∃ r, L[0]? = some r := ⟨_, List.getElem?_eq_getElem (by omega)⟩
          have hr1 : r = [] ++ [n.kind] := HHEAD.out r (by rw [List.head?_eq_getElem?]; exact hr)
          obtain ⟨g, cp, hus, hcp, hcl⟩ := HROWS.out 0 r hr
          obtain ⟨bu, ou, rfl, c0⟩ := HU.out 0 (by omega)
          have x0 : w6.cell? ⟨bu, ou, none⟩ = some (.slice (some ⟨g, 0, none⟩) 1 cp) := by
            have h0 := c0 0 (by omega)
            simpa [List.getD_eq_getElem?_getD, hus, hr1] using h0
          have HB7 := Lib.hid (HB6.out.trans (show Below w.heap.size w6 (w6.drewN q) from ⟨rfl, rfl, rfl, Nat.le_refl _, fun _ _ => rfl⟩))
          clear c0 hus hcl hr hr1
          go_wp2_with fail
          go_ret
          exact ⟨rfl, HB7.out⟩
end Go.Proofs.YtgadnenkkfkaaaaGreatFmt

/- What is proved here: FnStacksDeepToldSaid: the law answers true for every input, and the input reads as it did: the told and tied card. Conditions: the listed tables lie as the program's text lays them (the card ties that). -/
namespace Go.Proofs.YtgadnenkkfkaaaaGreatFmt
open Go.ChangeShapes Go.WideShapes Go.ChangeAt Go.RowKit
open Go.ChangeMaps (open_string shut_string)
open Go.Extern.Stop Go.Stop Go.Extern
set_option linter.unusedVariables false


theorem laid_met (os : Os) (args : Array Value) : laidMetH Tryz.prog Rows.fnStacksDeepRow.laid ((World.laidAll Tryz.prog os Rows.fnStacksDeepRow.laid).forCall (fun _ _ => 0) ⟨#[], args, []⟩).memory := by
  rw [MakeChecks.laidMetH_plain _ _ _ (by kernel_rfl)]
  exact laidMet_laidAll _ (by kernel_rfl) (by kernel_rfl)
set_option maxRecDepth 100000 in
theorem lifted (os : Os) (started : os.Started) (H : Type) (enc : TypeId × Value → H) :
    ReturnsInTold none {} Tryz.checked os 7 .any Input.okWide ((OpenSpec.ofChange Rows.fnStacksDeepSpec).preRow enc Tryz.prog Tryz.f7 [] false Rows.fnStacksDeepRow.laid) (fun F => ((OpenSpec.ofChange Rows.fnStacksDeepSpec).at F).post enc Tryz.prog Tryz.f7 false true false false) (aloneAtReturn Tryz.prog) nothingAlways := by
  refine returnsInTold_of_row (C := Tryz.checked) (s := OpenSpec.ofChange Rows.fnStacksDeepSpec) (by kernel_rfl) own started (by kernel_rfl) Tryz.func7
    (fun F => ⟨World.laidAll Tryz.prog os Rows.fnStacksDeepRow.laid, F.over fun _ _ => 0, ⟨#[], #[.agg #[.string ⟨#[]⟩, .string ⟨#[]⟩, .slice none 0 0]], []⟩, World.laidAll_os _ _ _, World.shaped_of_ZipB (by kernel_rfl) (by kernel_rfl), rfl, (Input.okWide_of_okWideB (by kernel_rfl)).2,
      OpenSpec.preRow_of_B rfl 8 (by kernel_rfl) (by kernel_rfl) (laid_met os _), by
        simp only [Assume.holds]
        exact ⟨by simp, by simp, fun _ => F.over_modest Modest.zero, by simp, by simp⟩, F.over_answers _⟩) ?_
  intro F W base args ds gs before _ hF hval0 hW _ _ _ hL _
  have hval : ∀ (j : Nat) t v, Tryz.f7.params[j]? = some t → args[j]? = some v → Value.okWide Tryz.prog W .any base t v := hval0
  have hW' := hW
  obtain ⟨p, q, hA0, hV, rfl, hfz, hnd⟩ := hW
  have hA : DataW.TrodAll enc Tryz.prog W 0 (fun _ => true) true Tryz.f7.params.toList args.toList ds p := hA0
  have hlt := hA.lt
  rw [Tryz.params7] at hA hval
  obtain ⟨fs, f0, f1, f2, hu, _⟩ := underNode
  have hT : TokTab W ∧ 0 < W.heap.size := by
    have hL' := hL
    rw [MakeChecks.laidMetH_plain _ _ _ (by kernel_rfl)] at hL'
    exact toks_of_reads (Lib.laidMet.reads hL' (List.Mem.tail _ (List.Mem.tail _ (List.Mem.tail _ (List.Mem.head _)))))
  obtain ⟨v0, d0, hargs, rfl, h0⟩ := trodAll_one hA
  subst hargs
  obtain ⟨c0, rfl, hsz⟩ := okWide_struct hu (hval 0 24 v0 rfl rfl)
  have h0' := h0
  obtain ⟨fuel, h0⟩ := h0
  obtain ⟨n, v, hc, hk⟩ := open_node fuel h0
  have ec : c0 = #[.string n.kind, .string n.text, v] := Array.ext' hc
  subst ec
  have hlt0 : ∀ x ∈ p, x.block < W.heap.size := fun x hx => hlt x hx
  obtain ⟨g, hgs⟩ : ∃ g, gs = [g] := by
    obtain ⟨_, _, _, _, d, _, e, _⟩ := trodVars_one hV
    exact ⟨d, e⟩
  subst hgs
  refine (law_deep n v W hk hT.1 hT.2).mono fun e W' ⟨he, hb⟩ => ?_
  subst he
  have hV' := Below.trodVars laidOut hb (by kernel_rfl) hV
  exact ⟨_, rfl, _, _, _, [], _, _, hW', trodAll_mk1 (shut_bool (by kernel_rfl) _), trodAll_mk1 (Below.trod laidOut (by kernel_rfl) (of_decide_eq_true (by kernel_rfl)) h0' hb hlt0), hV', hb.frame _, fun h => by cases h⟩
theorem told_holds : Rows.FnStacksDeepToldSaid :=
  Claim7.holds_of_told_tied_any_at .later 7 Tryz.f7 "fmt.Sprintf, its operands' methods called" [] [] _ _ _ _ _ (by kernel_rfl) rfl rfl rfl laidOut (by kernel_rfl) rfl ⟨rfl, rfl, rfl, rfl, rfl, rfl, rfl⟩ rfl rfl (by kernel_rfl) (by kernel_rfl) Tryz.func7 (by kernel_rfl)
    (of_decide_eq_true (by kernel_rfl)) (by unfold Func.isWrapper; first | (rw [if_pos (by decide +kernel)]; kernel_rfl) | (rw [if_neg (by decide +kernel)]; exact ⟨rfl, rfl⟩)) stops.symm rfl stopKnobs.symm (by kernel_rfl)
    (by kernel_rfl) (by kernel_rfl) (by kernel_rfl) (by kernel_rfl) (by kernel_rfl) (by kernel_rfl) (by kernel_rfl) (by kernel_rfl) (by kernel_rfl) rfl (by kernel_rfl) rfl rfl
    rfl rfl
    rfl (by kernel_rfl) (by kernel_rfl) (by kernel_rfl) (by decide) (by kernel_rfl) fnStacksDeep_row_tie
    (OpenClaim.moreEntering_of (by kernel_rfl) (by kernel_rfl) (by kernel_rfl) (by kernel_rfl) (by kernel_rfl) (by kernel_rfl) (by kernel_rfl) (by kernel_rfl) (by kernel_rfl) (by kernel_rfl))
    ⟨_, WideRow.started_initial, quiet _⟩
    (fun os started _ H enc _ => lifted os started H enc)
#print axioms told_holds
end Go.Proofs.YtgadnenkkfkaaaaGreatFmt

